import JvmDerived
import JvmDerived.Pilot.@@N@@Statement
import JvmDerived.Pilot.@@N@@Code
set_option linter.unusedVariables false
set_option linter.unusedSimpArgs false
namespace Jvm.RoadKit
open Sem ClassFile Op Lib Jvm.Stand Jvm.Free Jvm.LawKit
section OwnKit
variable {p : Program} {l : Launch} {e : Env} {R : Room} {s : State} {m : MethodId} {args : Array Value} {below : List Frame} {meth : Method} {c : Code} {T : State} {locs : List Loc} {cells slots : Nat} {Z : State} {a0 : Array Value} {h : Heap}
abbrev OwnP : Type := Option Value → Heap → List Loc → Prop
/-- from the state A the run comes back with what P says -/
def OwnG (tb : Tables) (e : Env) (below : List Frame) (s : State) (P : OwnP) (rc rs : Nat) (A : State) : Prop :=
  ∃ s₂ o, Steps tb e below A s₂ ∧ s₂.status = .running ∧ Ended s₂ below o ∧ ∃ v L, o = .returned v ∧ P v s₂.heap L ∧ FrameEnd s o s₂ L rc rs
theorem own_go {tb : Tables} {P : OwnP} {rc rs : Nat} {A : State} (T' : State) (m' : MethodId) (pc : Nat) (Ls : Array Slot) (st : List Value) (f : ∀ t, Steps tb e below (T'.setTop (mkF m' pc Ls st)) t → Steps tb e below A t) (k : OwnG tb e below s P rc rs (T'.setTop (mkF m' pc Ls st))) : OwnG tb e below s P rc rs A := by
  obtain ⟨s₂, o, h1, h2⟩ := k
  exact ⟨s₂, o, f _ h1, h2⟩
theorem own_mono {tb : Tables} {P P' : OwnP} {rc rs : Nat} {A : State} (f : ∀ v h L, P v h L → P' v h L) (k : OwnG tb e below s P rc rs A) : OwnG tb e below s P' rc rs A := by
  obtain ⟨s₂, o, h1, h2, h3, v, L, h4, h5, h6⟩ := k
  exact ⟨s₂, o, h1, h2, h3, v, L, h4, f _ _ _ h5, h6⟩
/-- what a walk knows of the body -/
def OwnX (Z : State) (p : Program) (s : State) (m : MethodId) (meth : Method) (c : Code) (bytes : ByteArray) (maxL : Nat) (ret : Option FieldType) (own nm : String) : Prop :=
  p.tables.exec = Jvm.exec ∧ c.code = bytes ∧ c.maxLocals = maxL ∧ s.vm.findClass own = some m.cls ∧ meth.name = nm ∧ meth.sig.returnType = ret ∧ meth.locks = false ∧ Z.Warmed39 s.vm
/-- a body's contract -/
abbrev OwnC (l : Launch) (Z : State) (y : MethodName) (bytes : ByteArray) (maxL : Nat) (ret : Option FieldType) (ws : List Cond) (rm : Room) (as' : Array Value) (h0 : Heap) (P : OwnP) : Prop :=
  MetFree l y (head1 (Cond.code y bytes maxL ret :: ws) rm) (fun a U => a = as' ∧ Z.Warmed39 U.vm ∧ U.heap = h0) (fun _ _ _ _ _ => True) (fun _ U o U' => ∃ v L, o = .returned v ∧ P v U'.heap L ∧ FrameEnd U o U' L rm.cells rm.slots)
theorem own_entry {y : MethodName} {bytes : ByteArray} {maxL : Nat} {ret : Option FieldType} {ws : List Cond} {rm : Room} {as' : Array Value} {h0 : Heap} {P : OwnP} {Ls : Array Slot} (hpl : plainFor y = true) (ef : ∀ m, entryFrame m as' maxL = mkF m 0 Ls [])
    (body : ∀ (p : Program) (e : Env) (s : State) (m : MethodId) (below : List Frame) (meth : Method) (c : Code) (T : State), Stand p l e rm s m as' below meth c T [] 0 0 → OwnX Z p s m meth c bytes maxL ret y.cls y.name → T.heap = h0 → OwnG p.tables e below s P rm.cells rm.slots (T.setTop (mkF m 0 Ls []))) :
    OwnC l Z y bytes maxL ret ws rm as' h0 P := by
  refine MetFree.of_bodySF hpl hisR ?_
  intro p e s m args below meth c s₁ Bd hml0 hP hK
  obtain ⟨rfl, hZ, hh⟩ := hP
  have e0 : s₁.heap = h0 := by rw [← hh, Bd.state]; rfl
  obtain ⟨s₂, o, h1, h2⟩ := body p e s m below meth c s₁ (Stand.of_body Bd) ⟨Bd.exec, Bd.bytes, hml0, findClass_of_methodNamed Bd.named, (name_of_methodNamed Bd.named Bd.method).1, Bd.returns, Bd.notSynchronized, hZ⟩ e0
  exact ⟨s₂, o, castTop (ef m) h1, h2⟩
theorem own_ret {P : OwnP} {rc rs : Nat} (X : Stand p l e R s m args below meth c T locs cells slots) (hx : p.tables.exec = Jvm.exec) (hlk : meth.locks = false) {pc : Nat} {Ls : Array Slot} {w : Value} {t : FieldType} {i : Instr} {rest : List Value} (hret : meth.sig.returnType = some t) (hn : narrow t w = w)
    (hi : (i = .ireturn ∧ (t = .int ∨ t = .boolean ∨ t = .byte ∨ t = .char ∨ t = .short) ∧ ∃ z, w = .int z) ∨ (i = .lreturn ∧ t = .long ∧ ∃ z, w = .long z) ∨ (i = .dreturn ∧ t = .double ∧ ∃ z, w = .double z) ∨ (i = .freturn ∧ t = .float ∧ ∃ z, w = .float z) ∨ (i = .areturn ∧ t.isReference = true ∧ w.isRef = true))
    (hd : decode c.code pc = .ok (i, 1)) (hc : cells ≤ rc) (hs : slots ≤ rs) (hP : P (some w) T.heap locs) : OwnG p.tables e below s P rc rs (T.setTop (mkF m pc Ls (w :: rest))) := by
  obtain ⟨fs, hr, hrun, hended, hW, hsame⟩ := X.leave (v := some w) (fun h => by rw [hret] at h; cases h) hlk
  exact ⟨_, _, retOut X hx hret hn hi hd hr, hrun, hended, _, _, rfl, hP, ⟨_, rfl⟩, hW, hsame.mono hc hs⟩
theorem own_retI {P : OwnP} {rc rs : Nat} (X : Stand p l e R s m args below meth c T locs cells slots) (hx : p.tables.exec = Jvm.exec) (hlk : meth.locks = false) {pc : Nat} {Ls : Array Slot} {z : Int32} {rest : List Value} (hret : meth.sig.returnType = some .int)
    (hd : decode c.code pc = .ok (.ireturn, 1)) (hc : cells ≤ rc) (hs : slots ≤ rs) (hP : P (some (.int z)) T.heap locs) : OwnG p.tables e below s P rc rs (T.setTop (mkF m pc Ls (.int z :: rest))) :=
  own_ret X hx hlk hret rfl (Or.inl ⟨rfl, Or.inl rfl, z, rfl⟩) hd hc hs hP
theorem own_retZ {P : OwnP} {rc rs : Nat} (X : Stand p l e R s m args below meth c T locs cells slots) (hx : p.tables.exec = Jvm.exec) (hlk : meth.locks = false) {pc : Nat} {Ls : Array Slot} {z : Int32} {rest : List Value} (hret : meth.sig.returnType = some .boolean) (hz : z = 0 ∨ z = 1)
    (hd : decode c.code pc = .ok (.ireturn, 1)) (hc : cells ≤ rc) (hs : slots ≤ rs) (hP : P (some (.int z)) T.heap locs) : OwnG p.tables e below s P rc rs (T.setTop (mkF m pc Ls (.int z :: rest))) :=
  own_ret X hx hlk hret (by rcases hz with rfl | rfl <;> rfl) (Or.inl ⟨rfl, Or.inr (Or.inl rfl), z, rfl⟩) hd hc hs hP
theorem own_retB {P : OwnP} {rc rs : Nat} (X : Stand p l e R s m args below meth c T locs cells slots) (hx : p.tables.exec = Jvm.exec) (hlk : meth.locks = false) {pc : Nat} {Ls : Array Slot} {z : Int32} {rest : List Value} (hret : meth.sig.returnType = some .byte) (hz : narrow .byte (.int z) = .int z)
    (hd : decode c.code pc = .ok (.ireturn, 1)) (hc : cells ≤ rc) (hs : slots ≤ rs) (hP : P (some (.int z)) T.heap locs) : OwnG p.tables e below s P rc rs (T.setTop (mkF m pc Ls (.int z :: rest))) :=
  own_ret X hx hlk hret hz (Or.inl ⟨rfl, Or.inr (Or.inr (Or.inl rfl)), z, rfl⟩) hd hc hs hP
theorem own_retJ {P : OwnP} {rc rs : Nat} (X : Stand p l e R s m args below meth c T locs cells slots) (hx : p.tables.exec = Jvm.exec) (hlk : meth.locks = false) {pc : Nat} {Ls : Array Slot} {z : Int64} {rest : List Value} (hret : meth.sig.returnType = some .long)
    (hd : decode c.code pc = .ok (.lreturn, 1)) (hc : cells ≤ rc) (hs : slots ≤ rs) (hP : P (some (.long z)) T.heap locs) : OwnG p.tables e below s P rc rs (T.setTop (mkF m pc Ls (.long z :: rest))) :=
  own_ret X hx hlk hret rfl (Or.inr (Or.inl ⟨rfl, rfl, z, rfl⟩)) hd hc hs hP
theorem own_retA {P : OwnP} {rc rs : Nat} (X : Stand p l e R s m args below meth c T locs cells slots) (hx : p.tables.exec = Jvm.exec) (hlk : meth.locks = false) {pc : Nat} {Ls : Array Slot} {w : Value} {t : FieldType} {rest : List Value} (hret : meth.sig.returnType = some t) (hn : narrow t w = w) (ht : t.isReference = true) (hw : w.isRef = true)
    (hd : decode c.code pc = .ok (.areturn, 1)) (hc : cells ≤ rc) (hs : slots ≤ rs) (hP : P (some w) T.heap locs) : OwnG p.tables e below s P rc rs (T.setTop (mkF m pc Ls (w :: rest))) :=
  own_ret X hx hlk hret hn (Or.inr (Or.inr (Or.inr (Or.inr ⟨rfl, ht, hw⟩)))) hd hc hs hP
theorem own_retV {P : OwnP} {rc rs : Nat} (X : Stand p l e R s m args below meth c T locs cells slots) (hx : p.tables.exec = Jvm.exec) (hlk : meth.locks = false) {pc : Nat} {Ls : Array Slot} (hret : meth.sig.returnType = none)
    (hd : decode c.code pc = .ok (.return_, 1)) (hc : cells ≤ rc) (hs : slots ≤ rs) (hP : P none T.heap locs) : OwnG p.tables e below s P rc rs (T.setTop (mkF m pc Ls [])) := by
  obtain ⟨fs, hr, hrun, hended, hW, hsame⟩ := X.leave (v := none) (fun _ => rfl) hlk
  exact ⟨_, _, X.returnOut hx hret hd hr, hrun, hended, _, _, rfl, hP, ⟨_, rfl⟩, hW, hsame.mono hc hs⟩
theorem own_static (X : Stand p l e R s m args below meth c T locs cells slots) (hx : p.tables.exec = Jvm.exec) (hZ : Z.Warmed39 s.vm) {own : String} {index : Nat} {y : MethodName} {bytes : ByteArray} {maxL : Nat} {ret : Option FieldType} {rm : Room} {as' : Array Value} {P : OwnP}
    (hown : s.vm.findClass own = some m.cls) (w1 : (Cond.methodLink own index y).before a0 Z = true) (w2 : (Cond.static y).before a0 Z = true) (w3 : (Cond.initialized y.cls).before a0 Z = true) (w4 : (Cond.code y bytes maxL ret).before a0 Z = true) (hy : y.cls ≠ "java/lang/invoke/MethodHandle" ∧ y.cls ≠ "java/lang/invoke/VarHandle")
    (hM : OwnC l Z y bytes maxL ret [] rm as' h P) (eT : T.heap = h) {pc : Nat} {Ls : Array Slot} {argsL rest : List Value} (W : Nat) {st : List Value} (hsz : Ls.size = c.maxLocals) (hlen : ∀ sig, parseMethodDescriptor y.desc = some sig → argsL.length = sig.parameters.length) (has : argsL.toArray = as') (hst : st = argsL.reverse ++ rest) (hW : (rest.map fun v => v.category).sum ≤ W)
    (hd : decode c.code pc = .ok (.invokestatic index, 3)) (hf : rm.frames + 1 ≤ R.frames) (hl : W + (maxL + 11) + rm.locals ≤ R.locals) (hc : cells + rm.cells ≤ R.cells) (hs : slots + rm.slots ≤ R.slots) :
    ∃ v T' L, Stand p l e R s m args below meth c T' (locs ++ L) (cells + rm.cells) (slots + rm.slots) ∧ P v T'.heap L ∧ ∀ t, Steps p.tables e below (T'.setTop (mkF m (pc + 3) Ls (v.toList ++ rest))) t → Steps p.tables e below (T.setTop (mkF m pc Ls st)) t := by
  obtain ⟨v, vm₁, ⟨T', L', k', n'⟩, -, X', ⟨L, hQ, l1, l2, l3⟩, stp⟩ := Jvm.LawKit.callS X hx hown (mvT hZ w1) (mvT hZ w2) (mvT hZ w3) (mvT hZ w4) hy (backOf (W := W) hM hZ w4 w3 hf hl) (g := mkF m pc Ls st) rfl hsz (argsL := argsL) (rest := rest) hlen hst (by show 2 * 0 + _ ≤ _; omega) hd (fun _ _ => ⟨has, eT, hc, hs⟩)
  dsimp only [Pt.U, Pt.locs, Pt.cells, Pt.slots] at X' l1 l2 l3 stp hQ
  subst l1 l2 l3
  exact ⟨v, T', L, X', hQ, stp⟩
theorem own_init (X : Stand p l e R s m args below meth c T locs cells slots) (hx : p.tables.exec = Jvm.exec) (hZ : Z.Warmed39 s.vm) {own : String} {index : Nat} {y : MethodName} {bytes : ByteArray} {maxL : Nat} {rm : Room} {as' : Array Value} {P : OwnP} (hy1 : y.name = "<init>")
    (hown : s.vm.findClass own = some m.cls) (w1 : (Cond.methodLink own index y).before a0 Z = true) (w2 : (Cond.instanceMethod y).before a0 Z = true) (w3 : (Cond.initialized y.cls).before a0 Z = true) (w4 : (Cond.code y bytes maxL none).before a0 Z = true) (hy : y.cls ≠ "java/lang/invoke/MethodHandle" ∧ y.cls ≠ "java/lang/invoke/VarHandle")
    (hM : OwnC l Z y bytes maxL none [] rm as' h P) (eT : T.heap = h) {pc : Nat} {Ls : Array Slot} {a : Addr} {argsL rest : List Value} (W : Nat) {st : List Value} (hsz : Ls.size = c.maxLocals) (hlen : ∀ sig, parseMethodDescriptor y.desc = some sig → argsL.length = sig.parameters.length) (has : (.ref a :: argsL).toArray = as') (hst : st = argsL.reverse ++ .ref a :: rest) (hW : (rest.map fun v => v.category).sum ≤ W)
    (hd : decode c.code pc = .ok (.invokespecial index, 3)) (hf : rm.frames + 1 ≤ R.frames) (hl : W + (maxL + 11) + rm.locals ≤ R.locals) (hc : cells + rm.cells ≤ R.cells) (hs : slots + rm.slots ≤ R.slots) :
    ∃ v T' L, Stand p l e R s m args below meth c T' (locs ++ L) (cells + rm.cells) (slots + rm.slots) ∧ P v T'.heap L ∧ ∀ t, Steps p.tables e below (T'.setTop (mkF m (pc + 3) Ls (v.toList ++ rest))) t → Steps p.tables e below (T.setTop (mkF m pc Ls st)) t := by
  obtain ⟨v, vm₁, ⟨T', L', k', n'⟩, -, X', ⟨L, hQ, l1, l2, l3⟩, stp⟩ := X.specialBack hx hy1 hown (mvT hZ w1) (mvT hZ w2) (mvT hZ w4) hy (backOf (W := W) hM hZ w4 w3 hf hl) (g := mkF m pc Ls st) rfl hsz (Steps.refl _) (a := a) (argsL := argsL) (rest := rest) hlen hst (by show 2 * 0 + _ ≤ _; omega) hd (fun _ _ => ⟨has, eT, hc, hs⟩)
  dsimp only [Pt.U, Pt.locs, Pt.cells, Pt.slots] at X' l1 l2 l3 stp hQ
  subst l1 l2 l3
  exact ⟨v, T', L, X', hQ, fun t k => stp.trans k⟩
theorem own_virtual (X : Stand p l e R s m args below meth c T locs cells slots) (hx : p.tables.exec = Jvm.exec) (hZ : Z.Warmed39 s.vm) {own C : String} {index : Nat} {y z : MethodName} {bytes : ByteArray} {maxL : Nat} {ret : Option FieldType} {rm : Room} {as' : Array Value} {P : OwnP}
    (hown : s.vm.findClass own = some m.cls) (w1 : (Cond.methodLink own index y).before a0 Z = true) (w2 : (Cond.declares y).before a0 Z = true) (hnf : NotFace s y) (w5 : (Cond.selects C y z).before a0 Z = true) (w6 : (Cond.instanceMethod z).before a0 Z = true) (w3 : (Cond.initialized z.cls).before a0 Z = true) (w4 : (Cond.code z bytes maxL ret).before a0 Z = true) (hy : y.cls ≠ "java/lang/invoke/MethodHandle" ∧ y.cls ≠ "java/lang/invoke/VarHandle")
    (hM : OwnC l Z z bytes maxL ret [] rm as' h P) (eT : T.heap = h) {a : Addr} (E : Exa Z h a C) {pc : Nat} {Ls : Array Slot} {argsL rest : List Value} (W : Nat) {st : List Value} (hsz : Ls.size = c.maxLocals) (hlen : ∀ sig, parseMethodDescriptor y.desc = some sig → argsL.length = sig.parameters.length) (has : (.ref a :: argsL).toArray = as') (hst : st = argsL.reverse ++ .ref a :: rest) (hW : (rest.map fun v => v.category).sum ≤ W)
    (hd : decode c.code pc = .ok (.invokevirtual index, 3)) (hf : rm.frames + 1 ≤ R.frames) (hl : W + (maxL + 11) + rm.locals ≤ R.locals) (hc : cells + rm.cells ≤ R.cells) (hs : slots + rm.slots ≤ R.slots) :
    ∃ v T' L, Stand p l e R s m args below meth c T' (locs ++ L) (cells + rm.cells) (slots + rm.slots) ∧ P v T'.heap L ∧ ∀ t, Steps p.tables e below (T'.setTop (mkF m (pc + 3) Ls (v.toList ++ rest))) t → Steps p.tables e below (T.setTop (mkF m pc Ls st)) t := by
  obtain ⟨cq, kq, qa, qb, qc⟩ := isOf hZ eT E
  obtain ⟨v, vm₁, ⟨T', L', k', n'⟩, -, X', ⟨L, hQ, l1, l2, l3⟩, stp⟩ := X.virtualBack hx (y := y) (z := z) hown (mvT hZ w1) (mvT hZ w2) hnf (mvT hZ w5) (mvT hZ w6) hy (backOf (W := W) hM hZ w4 w3 hf hl) qa qc (g := mkF m pc Ls st) rfl hsz (Steps.refl _) (argsL := argsL) (rest := rest) hlen hst (by show 2 * 0 + _ ≤ _; omega) hd (fun _ _ => ⟨has, eT, hc, hs⟩)
  dsimp only [Pt.U, Pt.locs, Pt.cells, Pt.slots] at X' l1 l2 l3 stp hQ
  subst l1 l2 l3
  exact ⟨v, T', L, X', hQ, fun t k => stp.trans k⟩
/-- a body that writes nothing and makes nothing -/
def OwnPure (w : Value) (h0 : Heap) : OwnP := fun v h L => v = some w ∧ h = h0 ∧ L = []
theorem own_nil (X : Stand p l e R s m args below meth c T (locs ++ []) cells slots) : Stand p l e R s m args below meth c T locs cells slots := by rwa [List.append_nil] at X
theorem own_iaload (X : Stand p l e R s m args below meth c T locs cells slots) (hx : p.tables.exec = Jvm.exec) (hZ : Z.Warmed39 s.vm) (eT : T.heap = h) {a : Addr} {k : ClassId} {n : Int32} {vs : List Value} {dv : Value} (V : Arv Z h a k .int n vs dv) {j x : Int32} (hj : ¬ j < 0 ∧ j < n) (hv : vs.getD j.toNatClampNeg dv = .int x)
    {pc : Nat} {Ls : Array Slot} {rest : List Value} (hd : decode c.code pc = .ok (.iaload, 1)) : ∀ t, Steps p.tables e below (T.setTop (mkF m (pc + 1) Ls (.int x :: rest))) t → Steps p.tables e below (T.setTop (mkF m pc Ls (.int j :: .ref a :: rest))) t := by
  obtain ⟨cl, A, -, S, -, H, -⟩ := V
  exact fun t k => X.iaload hx (by rw [eT]; exact A.1) (State.isArrayOf_alike hZ.alike A.2.1) A.2.2 (inb_of S hj) (H.at (inb_of S hj) hv) (g := mkF m pc Ls (.int j :: .ref a :: rest)) rfl rfl hd t k
theorem own_baload (X : Stand p l e R s m args below meth c T locs cells slots) (hx : p.tables.exec = Jvm.exec) (hZ : Z.Warmed39 s.vm) (eT : T.heap = h) {a : Addr} {k : ClassId} {n : Int32} {vs : List Value} {dv : Value} (V : Arv Z h a k .byte n vs dv) {j x : Int32} (hj : ¬ j < 0 ∧ j < n) (hv : vs.getD j.toNatClampNeg dv = .int x)
    {pc : Nat} {Ls : Array Slot} {rest : List Value} (hd : decode c.code pc = .ok (.baload, 1)) : ∀ t, Steps p.tables e below (T.setTop (mkF m (pc + 1) Ls (.int x :: rest))) t → Steps p.tables e below (T.setTop (mkF m pc Ls (.int j :: .ref a :: rest))) t := by
  obtain ⟨cl, A, -, S, -, H, -⟩ := V
  exact fun t k => X.baloadBytes hx (by rw [eT]; exact A.1) (State.isArrayOf_alike hZ.alike A.2.1) A.2.2 (inb_of S hj) (H.at (inb_of S hj) hv) (g := mkF m pc Ls (.int j :: .ref a :: rest)) rfl rfl hd t k
theorem own_aaload (X : Stand p l e R s m args below meth c T locs cells slots) (hx : p.tables.exec = Jvm.exec) (hZ : Z.Warmed39 s.vm) (eT : T.heap = h) {a : Addr} {k : ClassId} {ty : FieldType} {n : Int32} {vs : List Value} {dv : Value} (V : Arv Z h a k ty n vs dv) (hty : ty.isReference = true) {j : Int32} {w : Value} (hj : ¬ j < 0 ∧ j < n) (hv : vs.getD j.toNatClampNeg dv = w)
    {pc : Nat} {Ls : Array Slot} {rest : List Value} (hd : decode c.code pc = .ok (.aaload, 1)) : ∀ t, Steps p.tables e below (T.setTop (mkF m (pc + 1) Ls (w :: rest))) t → Steps p.tables e below (T.setTop (mkF m pc Ls (.int j :: .ref a :: rest))) t := by
  obtain ⟨cl, A, -, S, -, H, -⟩ := V
  exact fun t k => X.aaload hx (by rw [eT]; exact A.1) (State.isArrayOf_alike hZ.alike A.2.1) hty A.2.2 (inb_of S hj) (H.at (inb_of S hj) hv) (g := mkF m pc Ls (.int j :: .ref a :: rest)) rfl rfl hd t k
theorem own_alen (X : Stand p l e R s m args below meth c T locs cells slots) (hx : p.tables.exec = Jvm.exec) (hZ : Z.Warmed39 s.vm) (eT : T.heap = h) {a : Addr} {k : ClassId} {ty : FieldType} {n : Int32} {vs : List Value} {dv : Value} (V : Arv Z h a k ty n vs dv)
    {pc : Nat} {Ls : Array Slot} {rest : List Value} (hd : decode c.code pc = .ok (.arraylength, 1)) : ∀ t, Steps p.tables e below (T.setTop (mkF m (pc + 1) Ls (.int n :: rest))) t → Steps p.tables e below (T.setTop (mkF m pc Ls (.ref a :: rest))) t := by
  obtain ⟨cl, A, -, S, N, H, -⟩ := V
  intro t q
  refine X.arraylength hx (by rw [eT]; exact A.1) (State.isArrayOf_alike hZ.alike A.2.1) (g := mkF m pc Ls (.ref a :: rest)) rfl rfl hd t ?_
  rw [len_of S N]
  exact q
theorem own_iastore (X : Stand p l e R s m args below meth c T locs cells slots) (hx : p.tables.exec = Jvm.exec) (hZ : Z.Warmed39 s.vm) (eT : T.heap = h) {a : Addr} {k : ClassId} {n : Int32} {vs : List Value} {dv : Value} (V : Arv Z h a k .int n vs dv) {j x : Int32} (hj : ¬ j < 0 ∧ j < n) (i : Nat) (hi : j.toNatClampNeg = i) (hl : i < vs.length)
    {pc : Nat} {Ls : Array Slot} {rest : List Value} (hd : decode c.code pc = .ok (.iastore, 1)) : ∃ T' h', Stand p l e R s m args below meth c T' (locs ++ [⟨a, i⟩]) cells slots ∧ T'.heap = h' ∧ Wr h h' a i (.int x) ∧ Arv Z h' a k .int n (vs.set i (.int x)) dv ∧ ∀ t, Steps p.tables e below (T'.setTop (mkF m (pc + 1) Ls rest)) t → Steps p.tables e below (T.setTop (mkF m pc Ls (.int x :: .int j :: .ref a :: rest))) t := by
  obtain ⟨cl, A, q1, S, N, H, G⟩ := V
  obtain ⟨T', h', X', e', W', st⟩ := stI X hx hZ eT A (j := j) (x := x) (inb_of S hj) (g := mkF m pc Ls (.int x :: .int j :: .ref a :: rest)) rfl rfl hd
  have V' := Arv.set A q1 S N H G (v := .int x) rfl W' i hi hl
  rw [hi] at X' W'
  exact ⟨T', h', X', e', W', V', st⟩
theorem own_bastore (X : Stand p l e R s m args below meth c T locs cells slots) (hx : p.tables.exec = Jvm.exec) (hZ : Z.Warmed39 s.vm) (eT : T.heap = h) {a : Addr} {k : ClassId} {n : Int32} {vs : List Value} {dv : Value} (V : Arv Z h a k .byte n vs dv) {j x : Int32} (hj : ¬ j < 0 ∧ j < n) (i : Nat) (hi : j.toNatClampNeg = i) (hl : i < vs.length)
    {pc : Nat} {Ls : Array Slot} {rest : List Value} (hd : decode c.code pc = .ok (.bastore, 1)) : ∃ T' h', Stand p l e R s m args below meth c T' (locs ++ [⟨a, i⟩]) cells slots ∧ T'.heap = h' ∧ Wr h h' a i (.int x.toInt8.toInt32) ∧ Arv Z h' a k .byte n (vs.set i (.int x.toInt8.toInt32)) dv ∧ ∀ t, Steps p.tables e below (T'.setTop (mkF m (pc + 1) Ls rest)) t → Steps p.tables e below (T.setTop (mkF m pc Ls (.int x :: .int j :: .ref a :: rest))) t := by
  obtain ⟨cl, A, q1, S, N, H, G⟩ := V
  obtain ⟨T', h', X', e', W', st⟩ := stB X hx hZ eT A (j := j) (x := x) (inb_of S hj) (g := mkF m pc Ls (.int x :: .int j :: .ref a :: rest)) rfl rfl hd
  have V' := Arv.set A q1 S N H G (v := .int x.toInt8.toInt32) (fits_nar_byte x) W' i hi hl
  rw [hi] at X' W'
  exact ⟨T', h', X', e', W', V', st⟩
theorem own_aastore (X : Stand p l e R s m args below meth c T locs cells slots) (hx : p.tables.exec = Jvm.exec) (hZ : Z.Warmed39 s.vm) (eT : T.heap = h) {a : Addr} {k : ClassId} {ty : FieldType} {n : Int32} {vs : List Value} {dv : Value} (V : Arv Z h a k ty n vs dv) (hty : ty.isReference = true) {C : String} (O : Ovr Z k C) {y : Addr} (I : Ins Z h y C true) {j : Int32} (hj : ¬ j < 0 ∧ j < n) (i : Nat) (hi : j.toNatClampNeg = i) (hl : i < vs.length)
    {pc : Nat} {Ls : Array Slot} {rest : List Value} (hd : decode c.code pc = .ok (.aastore, 1)) : ∃ T' h', Stand p l e R s m args below meth c T' (locs ++ [⟨a, i⟩]) cells slots ∧ T'.heap = h' ∧ Wr h h' a i (.ref y) ∧ Arv Z h' a k ty n (vs.set i (.ref y)) dv ∧ ∀ t, Steps p.tables e below (T'.setTop (mkF m (pc + 1) Ls rest)) t → Steps p.tables e below (T.setTop (mkF m pc Ls (.ref y :: .int j :: .ref a :: rest))) t := by
  obtain ⟨cl, A, q1, S, N, H, G⟩ := V
  obtain ⟨T', h', X', e', W', st⟩ := stR X hx hZ eT A (j := j) (v := .ref y) (inb_of S hj) hty (Sto.ofV A q1 O I) (g := mkF m pc Ls (.ref y :: .int j :: .ref a :: rest)) rfl rfl hd
  have V' := Arv.set A q1 S N H G (v := .ref y) (by cases ty <;> first | rfl | (simp [FieldType.isReference] at hty)) W' i hi hl
  rw [hi] at X' W'
  exact ⟨T', h', X', e', W', V', st⟩
theorem own_lt_eq {x y : Int64} (h : x = y) : lcmpW x y = 0 := (lw_eq x y).mpr h
theorem own_rem_ne {x y : Int32} {target : State} {g : JFrame} (X : Stand p l e R s m args below meth c T locs cells slots) (hx : p.tables.exec = Jvm.exec) (hg : g.method = m) {rest : List Value} (hd : decode c.code g.pc = .ok (.irem, 1)) (hs : g.stack = .int y :: .int x :: rest) (hy : y ≠ 0)
    (hr : Steps p.tables e below (T.setTop { g with pc := g.pc + 1, stack := .int (x % y) :: rest }) target) : Steps p.tables e below (T.setTop g) target := iremM X hx hg hd hs hy hr
theorem own_lrem {x y : Int64} {target : State} {g : JFrame} (X : Stand p l e R s m args below meth c T locs cells slots) (hx : p.tables.exec = Jvm.exec) (hg : g.method = m) {rest : List Value} (hd : decode c.code g.pc = .ok (.lrem, 1)) (hs : g.stack = .long y :: .long x :: rest) (hy : y ≠ 0)
    (hr : Steps p.tables e below (T.setTop { g with pc := g.pc + 1, stack := .long (x % y) :: rest }) target) : Steps p.tables e below (T.setTop g) target := by
  refine XS.lrem X.here hx hg hd hs hy ?_
  rw [lrem_mod]
  exact hr
theorem own_fld_int {args : Array Value} {t : Term} {C n d : String} {k : Int32} {a : Addr} (ev : t.eval args Z none [] Z = some (.ref a)) (h : (Cond.eq (Term.field t C n d) (Term.int k)).value args Z none Z [] = some true) : Fld Z Z.heap a C n d (.int k) := by
  obtain ⟨x, y, h1, h2, h3, h4⟩ := cmp_v (Or.inl h)
  have hy : y = .int k := by rw [Term.int_eval] at h2; exact (Option.some.inj h2).symm
  subst hy
  obtain ⟨z, rfl⟩ : ∃ z, x = .int z := h4
  have hz : z = k := by simpa [Cond.value, h1, h2] using h
  subst hz
  rw [fld_at ev] at h1
  exact Fld.start h1
theorem own_sta_keep {C n d : String} {v : Value} {h' : Heap} (F : Sta Z h C n d v) (K : Keep h h' []) : Sta Z h' C n d v := by
  obtain ⟨cf, i, k, f, st, cell, h1, h2, h3, h4, h5, h6⟩ := F
  exact ⟨cf, i, k, f, st, cell, h1, h2, h3, h4, K.2.1 _ _ h5 nin0, h6⟩
/-- the objects of C are no K: C's superclasses are named, K is a class that has objects -/
theorem own_nsroot {O K : String} {n : Nat} (w : (Cond.noSuperclass O).before a0 Z = true) (wk : (Cond.instantiable K n).before a0 Z = true) (hn : O ≠ K) : NS Z O K := by
  obtain ⟨c, k, h1, h2, h3, -, -⟩ := Cond.noSuperclass_spec w
  obtain ⟨t, kt, g1, -⟩ := Cond.instantiable_spec wk
  have ne := ids_ne h1 g1 hn
  refine ⟨c, t, h1, g1, fun fuel => ?_⟩
  cases fuel with
  | zero => rfl
  | succ f => simp [Vm.isSubclassAux, ne, h2, h3]
theorem own_nsno {C S K : String} {n : Nat} (w : (Cond.superclass C S).before a0 Z = true) (wk : (Cond.instantiable K n).before a0 Z = true) (q : NS Z C K) (hn : C ≠ K) : ∃ c t, Z.vm.findClass C = some c ∧ Z.vm.findClass K = some t ∧ Z.vm.assignable c t = false := by
  obtain ⟨c, t, h0, g0, n3⟩ := q
  obtain ⟨p, k, kp, h1, h2, h3, h4, h5, -, h7⟩ := Cond.superclass_spec h0 w
  obtain ⟨t', kt, g1, g2, g3, g4, -⟩ := Cond.instantiable_spec wk
  cases g0.symm.trans g1
  have g5 : kt.isInterface = false := by
    cases hq : kt.isInterface with
    | false => rfl
    | true => rw [hq] at g4; simp at g4
  have ne := ids_ne h0 g0 hn
  refine ⟨c, t, h0, g0, ?_⟩
  show Z.vm.assignableAux (255 + 1) c t = false
  simp [Vm.assignableAux, ne, h2, g2, h5, g3, g5, Vm.isSubclass, n3]
theorem own_s16 (x : Int32) : x.toInt16.toInt32.toInt16.toInt32 = x.toInt16.toInt32 := by simp
theorem own_virtualUp (X : Stand p l e R s m args below meth c T locs cells slots) (hx : p.tables.exec = Jvm.exec) (hZ : Z.Warmed39 s.vm) {own C owner : String} {index : Nat} {x y : MethodName} {bytes : ByteArray} {maxL : Nat} {ret : Option FieldType} {rm : Room} {as' : Array Value} {P : OwnP}
    (hown : s.vm.findClass own = some m.cls) (w1 : (Cond.methodLink own index x).before a0 Z = true) (w2 : (Cond.sameMethod x.cls owner x.name x.desc).before a0 Z = true) (w7 : (Cond.declares ⟨owner, x.name, x.desc⟩).before a0 Z = true) (hy : owner ≠ "java/lang/invoke/MethodHandle" ∧ owner ≠ "java/lang/invoke/VarHandle") (w5 : (Cond.selects C x y).before a0 Z = true) (w6 : (Cond.instanceMethod y).before a0 Z = true) (w3 : (Cond.initialized y.cls).before a0 Z = true) (w4 : (Cond.code y bytes maxL ret).before a0 Z = true)
    (hM : OwnC l Z y bytes maxL ret [] rm as' h P) (eT : T.heap = h) {a : Addr} (E : Exa Z h a C) {pc : Nat} {Ls : Array Slot} {argsL rest : List Value} (W : Nat) {st : List Value} (hsz : Ls.size = c.maxLocals) (hlen : ∀ sig, parseMethodDescriptor x.desc = some sig → argsL.length = sig.parameters.length) (has : (.ref a :: argsL).toArray = as') (hst : st = argsL.reverse ++ .ref a :: rest) (hW : (rest.map fun v => v.category).sum ≤ W)
    (hd : decode c.code pc = .ok (.invokevirtual index, 3)) (hf : rm.frames + 1 ≤ R.frames) (hl : W + (maxL + 11) + rm.locals ≤ R.locals) (hc : cells + rm.cells ≤ R.cells) (hs : slots + rm.slots ≤ R.slots) :
    ∃ v T' L, Stand p l e R s m args below meth c T' (locs ++ L) (cells + rm.cells) (slots + rm.slots) ∧ P v T'.heap L ∧ ∀ t, Steps p.tables e below (T'.setTop (mkF m (pc + 3) Ls (v.toList ++ rest))) t → Steps p.tables e below (T.setTop (mkF m pc Ls st)) t := by
  obtain ⟨cq, kq, qa, qb, qc⟩ := isOf hZ eT E
  obtain ⟨v, vm₁, ⟨T', L', k', n'⟩, -, X', ⟨L, hQ, l1, l2, l3⟩, stp⟩ := X.virtualBackUp hx (x := x) (y := y) hown (mvT hZ w1) (mvT hZ w2) (mvT hZ w7) hy (mvT hZ w5) (mvT hZ w6) (backOf (W := W) hM hZ w4 w3 hf hl) qa qc (g := mkF m pc Ls st) rfl hsz (Steps.refl _) (argsL := argsL) (rest := rest) hlen hst (by show 2 * 0 + _ ≤ _; omega) hd (fun _ _ => ⟨has, eT, hc, hs⟩)
  dsimp only [Pt.U, Pt.locs, Pt.cells, Pt.slots] at X' l1 l2 l3 stp hQ
  subst l1 l2 l3
  exact ⟨v, T', L, X', hQ, fun t k => stp.trans k⟩
theorem own_castore (X : Stand p l e R s m args below meth c T locs cells slots) (hx : p.tables.exec = Jvm.exec) (hZ : Z.Warmed39 s.vm) (eT : T.heap = h) {a : Addr} {k : ClassId} {n : Int32} {vs : List Value} {dv : Value} (V : Arv Z h a k .char n vs dv) {j x : Int32} (hj : ¬ j < 0 ∧ j < n) (i : Nat) (hi : j.toNatClampNeg = i) (hl : i < vs.length)
    {pc : Nat} {Ls : Array Slot} {rest : List Value} (hd : decode c.code pc = .ok (.castore, 1)) : ∃ T' h', Stand p l e R s m args below meth c T' (locs ++ [⟨a, i⟩]) cells slots ∧ T'.heap = h' ∧ Wr h h' a i (.int x.toUInt32.toUInt16.toUInt32.toInt32) ∧ Arv Z h' a k .char n (vs.set i (.int x.toUInt32.toUInt16.toUInt32.toInt32)) dv ∧ ∀ t, Steps p.tables e below (T'.setTop (mkF m (pc + 1) Ls rest)) t → Steps p.tables e below (T.setTop (mkF m pc Ls (.int x :: .int j :: .ref a :: rest))) t := by
  obtain ⟨cl, A, q1, S, N, H, G⟩ := V
  obtain ⟨T', h', X', e', W', st⟩ := stC X hx hZ eT A (j := j) (x := x) (inb_of S hj) (g := mkF m pc Ls (.int x :: .int j :: .ref a :: rest)) rfl rfl hd
  have V' := Arv.set A q1 S N H G (v := .int x.toUInt32.toUInt16.toUInt32.toInt32) (fits_nar_char x) W' i hi hl
  rw [hi] at X' W'
  exact ⟨T', h', X', e', W', V', st⟩
theorem own_sta_keep1 {C n d C' : String} {v : Value} {h' : Heap} {a : Addr} (F : Sta Z h C n d v) (K : Keep h h' [a]) (E : Exa Z h a C') : Sta Z h' C n d v := by
  obtain ⟨cf, i, k, f, st, cell, h1, h2, h3, h4, h5, h6, h7⟩ := F
  obtain ⟨cell', k', e1, -, -, e4, -⟩ := E
  have hne : st ≠ a := fun q => by
    subst q
    cases h5.symm.trans e1
    rw [h6] at e4
    cases e4
  exact ⟨cf, i, k, f, st, cell, h1, h2, h3, h4, K.2.1 _ _ h5 (ninS hne nin0), h6, h7⟩
theorem own_private (X : Stand p l e R s m args below meth c T locs cells slots) (hx : p.tables.exec = Jvm.exec) (hZ : Z.Warmed39 s.vm) {own C : String} {index n : Nat} {y : MethodName} {bytes : ByteArray} {maxL : Nat} {ret : Option FieldType} {rm : Room} {as' : Array Value} {P : OwnP}
    (hown : s.vm.findClass own = some m.cls) (w1 : (Cond.methodLink own index y).before a0 Z = true) (w2 : (Cond.instanceMethod y).before a0 Z = true) (wp : (Cond.privateMethod y).before a0 Z = true) (wi : (Cond.instantiable y.cls n).before a0 Z = true) (w3 : (Cond.initialized y.cls).before a0 Z = true) (w4 : (Cond.code y bytes maxL ret).before a0 Z = true) (hy : y.cls ≠ "java/lang/invoke/MethodHandle" ∧ y.cls ≠ "java/lang/invoke/VarHandle")
    (hM : OwnC l Z y bytes maxL ret [] rm as' h P) (eT : T.heap = h) {a : Addr} (E : Exa Z h a C) {pc : Nat} {Ls : Array Slot} {argsL rest : List Value} (W : Nat) {st : List Value} (hsz : Ls.size = c.maxLocals) (hlen : ∀ sig, parseMethodDescriptor y.desc = some sig → argsL.length = sig.parameters.length) (has : (.ref a :: argsL).toArray = as') (hst : st = argsL.reverse ++ .ref a :: rest) (hW : (rest.map fun v => v.category).sum ≤ W)
    (hd : decode c.code pc = .ok (.invokevirtual index, 3)) (hf : rm.frames + 1 ≤ R.frames) (hl : W + (maxL + 11) + rm.locals ≤ R.locals) (hc : cells + rm.cells ≤ R.cells) (hs : slots + rm.slots ≤ R.slots) :
    ∃ v T' L, Stand p l e R s m args below meth c T' (locs ++ L) (cells + rm.cells) (slots + rm.slots) ∧ P v T'.heap L ∧ ∀ t, Steps p.tables e below (T'.setTop (mkF m (pc + 3) Ls (v.toList ++ rest))) t → Steps p.tables e below (T.setTop (mkF m pc Ls st)) t := by
  obtain ⟨cell, hcell, hobj⟩ := E.cell
  have hpriv := Cond.privateMethod_at (mvP hZ wp (args := args))
  obtain ⟨ci, ki, i1, i2, i3, i4, -⟩ := Cond.instantiable_spec (show (Cond.instantiable y.cls n).before args s = true from mvT hZ wi)
  have hni : ki.isInterface = false := by
    cases hq : ki.isInterface with
    | false => rfl
    | true => rw [hq] at i4; simp at i4
  have hsel := selects_self_of_private (args := args) i1 i2 hni hpriv (mvT hZ w2) hy
  obtain ⟨v, vm₁, ⟨T', L', k', n'⟩, -, X', ⟨L, hQ, l1, l2, l3⟩, stp⟩ := X.privateBack hx (y := y) hown (mvT hZ w1) (mvT hZ w2) hsel hpriv (mvT hZ w4) hy (backOf (W := W) hM hZ w4 w3 hf hl) (g := mkF m pc Ls st) rfl hsz (Steps.refl _) (a := a) (by rw [eT]; exact hcell) hobj (argsL := argsL) (rest := rest) hlen hst (by show 2 * 0 + _ ≤ _; omega) hd (fun _ _ => ⟨has, eT, hc, hs⟩)
  dsimp only [Pt.U, Pt.locs, Pt.cells, Pt.slots] at X' l1 l2 l3 stp hQ
  subst l1 l2 l3
  exact ⟨v, T', L, X', hQ, fun t k => stp.trans k⟩
theorem own_interface (X : Stand p l e R s m args below meth c T locs cells slots) (hx : p.tables.exec = Jvm.exec) (hZ : Z.Warmed39 s.vm) {own C : String} {index count : Nat} {xi y : MethodName} {bytes : ByteArray} {maxL : Nat} {ret : Option FieldType} {rm : Room} {as' : Array Value} {P : OwnP}
    (hown : s.vm.findClass own = some m.cls) (w1 : (Cond.methodLink own index xi).before a0 Z = true) (w2 : (Cond.declares xi).before a0 Z = true) (w7 : (Cond.interfaceMethod xi.cls xi.cls xi.name xi.desc).before args s = true) (w5 : (Cond.selects C xi y).before a0 Z = true) (w6 : (Cond.instanceMethod y).before a0 Z = true) (w8 : (Cond.publicMethod y).before a0 Z = true) (w9 : (Cond.unhidden C xi.name xi.desc).before a0 Z = true) (w10 : (Cond.castable C xi.cls).before a0 Z = true) (w3 : (Cond.initialized y.cls).before a0 Z = true) (w4 : (Cond.code y bytes maxL ret).before a0 Z = true) (hy : xi.cls ≠ "java/lang/invoke/MethodHandle" ∧ xi.cls ≠ "java/lang/invoke/VarHandle")
    (hM : OwnC l Z y bytes maxL ret [] rm as' h P) (eT : T.heap = h) {a : Addr} (E : Exa Z h a C) {pc : Nat} {Ls : Array Slot} {argsL rest : List Value} (W : Nat) {st : List Value} (hsz : Ls.size = c.maxLocals) (hlen : ∀ sig, parseMethodDescriptor xi.desc = some sig → argsL.length = sig.parameters.length) (has : (.ref a :: argsL).toArray = as') (hst : st = argsL.reverse ++ .ref a :: rest) (hW : (rest.map fun v => v.category).sum ≤ W)
    (hd : decode c.code pc = .ok (.invokeinterface index count, 5)) (hf : rm.frames + 1 ≤ R.frames) (hl : W + (maxL + 11) + rm.locals ≤ R.locals) (hc : cells + rm.cells ≤ R.cells) (hs : slots + rm.slots ≤ R.slots) :
    ∃ v T' L, Stand p l e R s m args below meth c T' (locs ++ L) (cells + rm.cells) (slots + rm.slots) ∧ P v T'.heap L ∧ ∀ t, Steps p.tables e below (T'.setTop (mkF m (pc + 5) Ls (v.toList ++ rest))) t → Steps p.tables e below (T.setTop (mkF m pc Ls st)) t := by
  obtain ⟨cq, kq, qa, qb, qc⟩ := isOf hZ eT E
  obtain ⟨v, vm₁, ⟨T', L', k', n'⟩, -, X', ⟨L, hQ, l1, l2, l3⟩, stp⟩ := X.interfaceBack hx (xi := xi) (y := y) hown (mvT hZ w1) (mvT hZ w2) w7 (mvT hZ w5) (mvT hZ w6) (mvT hZ w8) (mvT hZ w9) (mvT hZ w10) hy (backOf (W := W) hM hZ w4 w3 hf hl) qa qb qc (g := mkF m pc Ls st) rfl hsz (Steps.refl _) (argsL := argsL) (rest := rest) hlen hst (by show 2 * 0 + _ ≤ _; omega) hd (fun _ _ => ⟨has, eT, hc, hs⟩)
  dsimp only [Pt.U, Pt.locs, Pt.cells, Pt.slots] at X' l1 l2 l3 stp hQ
  subst l1 l2 l3
  exact ⟨v, T', L, X', hQ, fun t k => stp.trans k⟩
theorem own_staticUp (X : Stand p l e R s m args below meth c T locs cells slots) (hx : p.tables.exec = Jvm.exec) (hZ : Z.Warmed39 s.vm) {own owner : String} {index : Nat} {x : MethodName} {bytes : ByteArray} {maxL : Nat} {ret : Option FieldType} {rm : Room} {as' : Array Value} {P : OwnP}
    (hown : s.vm.findClass own = some m.cls) (w1 : (Cond.methodLink own index x).before a0 Z = true) (w2 : (Cond.sameMethod x.cls owner x.name x.desc).before a0 Z = true) (hy : owner ≠ "java/lang/invoke/MethodHandle" ∧ owner ≠ "java/lang/invoke/VarHandle") (w5 : (Cond.static ⟨owner, x.name, x.desc⟩).before a0 Z = true) (w3 : (Cond.initialized owner).before a0 Z = true) (w4 : (Cond.code ⟨owner, x.name, x.desc⟩ bytes maxL ret).before a0 Z = true)
    (hM : OwnC l Z ⟨owner, x.name, x.desc⟩ bytes maxL ret [] rm as' h P) (eT : T.heap = h) {pc : Nat} {Ls : Array Slot} {argsL rest : List Value} (W : Nat) {st : List Value} (hsz : Ls.size = c.maxLocals) (hlen : ∀ sig, parseMethodDescriptor x.desc = some sig → argsL.length = sig.parameters.length) (has : argsL.toArray = as') (hst : st = argsL.reverse ++ rest) (hW : (rest.map fun v => v.category).sum ≤ W)
    (hd : decode c.code pc = .ok (.invokestatic index, 3)) (hf : rm.frames + 1 ≤ R.frames) (hl : W + (maxL + 11) + rm.locals ≤ R.locals) (hc : cells + rm.cells ≤ R.cells) (hs : slots + rm.slots ≤ R.slots) :
    ∃ v T' L, Stand p l e R s m args below meth c T' (locs ++ L) (cells + rm.cells) (slots + rm.slots) ∧ P v T'.heap L ∧ ∀ t, Steps p.tables e below (T'.setTop (mkF m (pc + 3) Ls (v.toList ++ rest))) t → Steps p.tables e below (T.setTop (mkF m pc Ls st)) t := by
  have c4 : (Cond.code ⟨owner, x.name, x.desc⟩ bytes maxL ret).before args s = true := mvT hZ w4
  obtain ⟨mk, hnamed⟩ := Cond.code_named c4
  obtain ⟨methM, cM, hmethM, -, -, -, -, -, -, hsigM⟩ := Cond.code_spec hnamed c4
  have hstatic : methM.isStatic = true := Cond.static_spec hnamed hmethM (mvT (args := args) hZ w5)
  obtain ⟨kP, hkP, -⟩ := className_of_methodNamed hnamed
  have hinitP : kP.init = .initialized := Cond.initialized_spec (findClass_of_methodNamed hnamed) hkP (mvT (args := args) hZ w3)
  obtain ⟨vm₁, X₁, hstep₁⟩ := X.invokestaticUp hx hown (mvT hZ w1) (mvT hZ w2) hy hnamed hmethM hstatic hkP hinitP (g := mkF m pc Ls st) rfl (argsL := argsL) (rest := rest) (hlen _ hsigM) hst hd
  obtain ⟨v, ⟨T', L', k', n'⟩, X', ⟨L, hQ, l1, l2, l3⟩, hsteps⟩ := (backOf (len := 3) (W := W) hM hZ w4 w3 hf hl) m meth c ⟨T.setVm vm₁, locs, cells, slots⟩ { mkF m pc Ls st with stack := rest } (.invokestatic index) mk argsL.toArray X₁ rfl hsz hd (by show 2 * 0 + (rest.map fun v => v.category).sum ≤ W; rw [Nat.mul_zero, Nat.zero_add]; exact hW) (X₁.named hnamed) ⟨has, eT, hc, hs⟩
  dsimp only [Pt.U, Pt.locs, Pt.cells, Pt.slots] at X' l1 l2 l3 hsteps hQ
  subst l1 l2 l3
  exact ⟨v, T', L, X', hQ, fun t k => ((hstep₁ _ fun acts => by rw [doInvoke_state]; exact Steps.refl _).trans hsteps).trans k⟩
theorem own_getfRef (X : Stand p l e R s m args below meth c T locs cells slots) (hx : p.tables.exec = Jvm.exec) (hZ : Z.Warmed39 s.vm) {own O n d : String} {index : Nat} (hown : s.vm.findClass own = some m.cls) (w : (Cond.fieldRef own index O n d).before a0 Z = true) (eT : T.heap = h) {a : Addr} {v : Value} (F : Fld Z h a O n d v)
    {pc : Nat} {Ls : Array Slot} {rest : List Value} (hd : decode c.code pc = .ok (.getfield index, 3)) : ∀ t, Steps p.tables e below (T.setTop (mkF m (pc + 3) Ls (v :: rest))) t → Steps p.tables e below (T.setTop (mkF m pc Ls (.ref a :: rest))) t := by
  obtain ⟨cell, cf, k, i, f, h1, h2, h3, h4, -, -, h7⟩ := F
  have hW : Z.Warmed39 T.vm := wtrans hZ X.warmed
  have hw := Cond.fieldRef_warmed39 hW w
  have hcur : (Z.setVm T.vm).vm.findClass own = some m.cls := by
    show T.vm.findClass own = _
    rw [X.warmed.alike.findClass]
    exact hown
  obtain ⟨c', k', i', f', q1, q2⟩ := Cond.fieldRef_spec hcur hw
  obtain ⟨k2, hi, -⟩ := State.fieldFound?_setVm (s := Z) hW.alike h2
  rw [hi] at q1
  cases q1
  exact fun t kk => (X.getfieldR hx (g := mkF m pc Ls (.ref a :: rest)) rfl q2 h3 rfl (by rw [eT]; exact h1) h4 h7 hd (Steps.refl _)).trans kk
theorem own_sneE {a b : Addr} {cell : Cell} {C : String} (h1 : h[a]? = some cell) (h2 : cell.vm.isStatics = true) (E : Exa Z h b C) : a ≠ b := fun q => by
  obtain ⟨cell', k', e1, -, -, e4, -⟩ := E
  subst q
  cases h1.symm.trans e1
  rw [h2] at e4
  cases e4
theorem own_sneA {a b : Addr} {cell : Cell} {k : ClassId} {ty : FieldType} {n : Int32} {vs : List Value} {dv : Value} (h1 : h[a]? = some cell) (h2 : cell.vm.isStatics = true) (V : Arv Z h b k ty n vs dv) : a ≠ b := fun q => by
  obtain ⟨cl, A, -⟩ := V
  subst q
  cases h1.symm.trans A.1
  have := A.plain
  rw [h2] at this
  cases this
theorem own_sta_keepL {C n d : String} {v : Value} {h' : Heap} {ws : List Addr} (F : Sta Z h C n d v) (K : Keep h h' ws) (q : ∀ (a : Addr) (cell : Cell), h[a]? = some cell → cell.vm.isStatics = true → a ∉ ws) : Sta Z h' C n d v := by
  obtain ⟨cf, i, k, f, st, cell, h1, h2, h3, h4, h5, h6, h7⟩ := F
  exact ⟨cf, i, k, f, st, cell, h1, h2, h3, h4, K.2.1 _ _ h5 (q _ _ h5 h6), h6, h7⟩
theorem own_nf {args : Array Value} {s : State} {C : String} {x y z : MethodName} (hsel : (Cond.selects C x z).before args s = true) (hc : y.cls = z.cls) : NotFace s y := fun r0 h0 => by
  obtain ⟨c2, r2, m2, q1, q2, q3, q4, kP, hkP, hkPi⟩ := Cond.selects_spec hsel
  have e1 := findClass_of_methodNamed h0
  have e2 := findClass_of_methodNamed q3
  rw [hc] at e1
  have e3 : r0.cls = m2.cls := Option.some.inj (e1.symm.trans e2)
  exact ⟨kP, by rw [e3]; exact hkP, hkPi⟩
end OwnKit
end Jvm.RoadKit
namespace Jvm.Pilot.@@N@@
open Jvm Jvm.ClassFile Sem Op Lib Jvm.Free Jvm.Stand Jvm.LawKit Jvm.RoadKit Bundle Jvm.Pilot.@@N@@.Jvm.D
theorem own_w {Z : State} {a0 : Array Value} (hw : ∀ d ∈ tables_1, d.before a0 Z = true) (i : Nat) {d : Jvm.Cond} (h : tables_1[i]? = some d) : d.before a0 Z = true := hw _ (List.mem_of_getElem? h)
theorem own_i {a : Addr} {L : List Addr} {Q : Prop} (i : Nat) (h : L[i]? = some a) : a ∈ L ∨ Q := Or.inl (List.mem_of_getElem? h)
theorem pd__JI_I : parseMethodDescriptor "(JI)I" = some ⟨[.long, .int], some .int⟩ := by decide +kernel
theorem pd__II_J : parseMethodDescriptor "(II)J" = some ⟨[.int, .int], some .long⟩ := by decide +kernel
theorem pd__JI_J : parseMethodDescriptor "(JI)J" = some ⟨[.long, .int], some .long⟩ := by decide +kernel
def own_dig (x : Int64) (k : Int32) : Int32 := ((((x.toUInt64 >>> ((k <<< ((2 : Int32) &&& 31)) &&& 0x3f).toInt64.toUInt64).toInt64) &&& (15 : Int64)).toInt32 % (10 : Int32))
def own_at (d k : Int32) : Int64 := (((48 : Int32) + d).toInt64 <<< ((k <<< ((3 : Int32) &&& 31)) &&& 0x3f).toInt64)
def own_s1 (v : Int64) : Int64 := (((v * (10 : Int64)) + ((v.toUInt64 >>> ((8 : Int32) &&& 0x3f).toInt64.toUInt64).toInt64)) &&& (71777214294589695 : Int64))
def own_s2 (v : Int64) : Int64 := (((v * (100 : Int64)) + ((v.toUInt64 >>> ((16 : Int32) &&& 0x3f).toInt64.toUInt64).toInt64)) &&& (281470681808895 : Int64))
def own_s3 (v : Int64) : Int64 := (((v * (10000 : Int64)) + ((v.toUInt64 >>> ((32 : Int32) &&& 0x3f).toInt64.toUInt64).toInt64)) &&& (4294967295 : Int64))
def own_s0 (w : Int64) (n : Int32) : Int64 := ((w - (3472328296227680304 : Int64)) <<< ((((8 : Int32) - n) <<< ((3 : Int32) &&& 31)) &&& 0x3f).toInt64)
def own_num (w : Int64) (n : Int32) : Int64 := own_s3 (own_s2 (own_s1 (own_s0 w n)))
def own_mask (n : Int32) : Int64 := if n = 8 then -1 else (((1 : Int64) <<< ((n <<< ((3 : Int32) &&& 31)) &&& 0x3f).toInt64) - (1 : Int64))
def own_st (n k : Int32) (e : Int64) (d : Int32) : Int64 := if k < n then e * 10 + d.toInt64 else e
theorem own_n18 (c : Int32) : (c &&& 7) + 1 = 1 ∨ (c &&& 7) + 1 = 2 ∨ (c &&& 7) + 1 = 3 ∨ (c &&& 7) + 1 = 4 ∨ (c &&& 7) + 1 = 5 ∨ (c &&& 7) + 1 = 6 ∨ (c &&& 7) + 1 = 7 ∨ (c &&& 7) + 1 = 8 := by
  have h1 := c_mask c 7 3 (by decide) (by decide)
  have h2 := c_iadd (c &&& 7) 1
  have h3 := rng32 ((c &&& 7) + 1)
  simp only [← Int32.toInt_inj]
  have e1 : (1 : Int32).toInt = 1 := by decide
  have e2 : (2 : Int32).toInt = 2 := by decide
  have e3 : (3 : Int32).toInt = 3 := by decide
  have e4 : (4 : Int32).toInt = 4 := by decide
  have e5 : (5 : Int32).toInt = 5 := by decide
  have e6 : (6 : Int32).toInt = 6 := by decide
  have e7 : (7 : Int32).toInt = 7 := by decide
  have e8 : (8 : Int32).toInt = 8 := by decide
  omega
theorem own_digb (x : Int64) (k : Int32) : 0 ≤ (own_dig x k).toInt ∧ (own_dig x k).toInt ≤ 9 := by
  unfold own_dig
  generalize (x.toUInt64 >>> ((k <<< ((2 : Int32) &&& 31)) &&& 0x3f).toInt64.toUInt64).toInt64 = y
  have h1 := c_maskL y 15 4 (by decide) (by decide)
  have h2 := c_l2i (y &&& 15)
  have h3 := rng32 (y &&& 15).toInt32
  have h4 := (c_irem (y &&& 15).toInt32 10 10 (by decide)).1
  have h5 : 0 ≤ (y &&& 15).toInt32.toInt := by omega
  have h6 := h4 h5
  omega
theorem own_lane (p a m0 m : Nat) (hp : p < 256) (hm : m0 < 256) : (p + 256 * a) &&& (m0 + 256 * m) = (p &&& m0) + 256 * (a &&& m) := by
  have h1 : ((p + 256 * a) &&& (m0 + 256 * m)) % 2 ^ 8 = (p &&& m0) := by
    rw [Nat.and_mod_two_pow]
    congr 1 <;> omega
  have h2 : ((p + 256 * a) &&& (m0 + 256 * m)) / 2 ^ 8 = (a &&& m) := by
    rw [Nat.and_div_two_pow]
    congr 1 <;> omega
  have h3 := Nat.div_add_mod ((p + 256 * a) &&& (m0 + 256 * m)) (2 ^ 8)
  omega
theorem own_p255 (p : Nat) (h : p < 256) : p &&& 255 = p := by
  have := Nat.and_two_pow_sub_one_eq_mod p 8
  simp at this
  omega
theorem own_landT (x m : Int64) (hx : 0 ≤ x.toInt) (hm : 0 ≤ m.toInt) : (x &&& m).toInt = ((x.toInt.toNat &&& m.toInt.toNat : Nat) : Int) := by
  have e1 : x.toBitVec.toNat = x.toInt.toNat := by
    have := BitVec.toInt_eq_toNat_cond x.toBitVec
    have h2 : x.toInt = x.toBitVec.toInt := rfl
    have h3 := x.toBitVec.isLt
    split at this <;> omega
  have e2 : m.toBitVec.toNat = m.toInt.toNat := by
    have := BitVec.toInt_eq_toNat_cond m.toBitVec
    have h2 : m.toInt = m.toBitVec.toInt := rfl
    have h3 := m.toBitVec.isLt
    split at this <;> omega
  have e3 : (x &&& m).toBitVec.toNat = x.toBitVec.toNat &&& m.toBitVec.toNat := by rw [Int64.toBitVec_and, BitVec.toNat_and]
  have e4 := Nat.and_le_left (n := x.toInt.toNat) (m := m.toInt.toNat)
  have h5 := rng64 x
  have := BitVec.toInt_eq_toNat_cond (x &&& m).toBitVec
  have h2 : (x &&& m).toInt = (x &&& m).toBitVec.toInt := rfl
  rw [e3, e1, e2] at this
  split at this <;> omega
theorem own_m1 (x : Int64) (p0 p1 p2 p3 p4 p5 p6 p7 : Nat) (h0 : p0 < 100) (h1 : p1 < 100) (h2 : p2 < 100) (h3 : p3 < 100) (h4 : p4 < 100) (h5 : p5 < 100) (h6 : p6 < 100) (h7 : p7 < 100)
    (hx : x.toInt = ((p0 + 256 * (p1 + 256 * (p2 + 256 * (p3 + 256 * (p4 + 256 * (p5 + 256 * (p6 + 256 * p7)))))) : Nat) : Int)) : (x &&& 71777214294589695).toInt = ((p0 + 65536 * p2 + 4294967296 * p4 + 281474976710656 * p6 : Nat) : Int) := by
  rw [own_landT x _ (by omega) (by decide), hx, Int.toNat_natCast]
  rw [show (71777214294589695 : Int64).toInt.toNat = 255 + 256 * (0 + 256 * (255 + 256 * (0 + 256 * (255 + 256 * (0 + 256 * (255 + 256 * 0)))))) from by decide]
  rw [own_lane _ _ _ _ (by omega) (by omega), own_lane _ _ _ _ (by omega) (by omega), own_lane _ _ _ _ (by omega) (by omega), own_lane _ _ _ _ (by omega) (by omega), own_lane _ _ _ _ (by omega) (by omega), own_lane _ _ _ _ (by omega) (by omega), own_lane _ _ _ _ (by omega) (by omega)]
  rw [own_p255 p0 (by omega), own_p255 p2 (by omega), own_p255 p4 (by omega), own_p255 p6 (by omega)]
  simp only [Nat.and_zero]
  omega
theorem own_m2 (x : Int64) (q0 q1 q2 q3 : Nat) (h0 : q0 < 10000) (h1 : q1 < 10000) (h2 : q2 < 10000) (h3 : q3 < 10000)
    (hx : x.toInt = ((q0 + 65536 * (q1 + 65536 * (q2 + 65536 * q3)) : Nat) : Int)) : (x &&& 281470681808895).toInt = ((q0 + 4294967296 * q2 : Nat) : Int) := by
  rw [own_landT x _ (by omega) (by decide), hx, Int.toNat_natCast]
  rw [show (281470681808895 : Int64).toInt.toNat = 255 + 256 * (255 + 256 * (0 + 256 * (0 + 256 * (255 + 256 * (255 + 256 * 0))))) from by decide]
  rw [show q0 + 65536 * (q1 + 65536 * (q2 + 65536 * q3)) = q0 % 256 + 256 * (q0 / 256 + 256 * (q1 % 256 + 256 * (q1 / 256 + 256 * (q2 % 256 + 256 * (q2 / 256 + 256 * q3))))) from by omega]
  rw [own_lane _ _ _ _ (by omega) (by omega), own_lane _ _ _ _ (by omega) (by omega), own_lane _ _ _ _ (by omega) (by omega), own_lane _ _ _ _ (by omega) (by omega), own_lane _ _ _ _ (by omega) (by omega), own_lane _ _ _ _ (by omega) (by omega)]
  rw [own_p255 (q0 % 256) (by omega), own_p255 (q0 / 256) (by omega), own_p255 (q2 % 256) (by omega), own_p255 (q2 / 256) (by omega)]
  simp only [Nat.and_zero]
  omega
theorem own_st8 (v : Int64) (m : Int64) (q : Int32) (k : Nat) (M K : Int) (hm : m.toInt = M) (hq : q.toBitVec.toNat % 64 = k) (hk : 0 < k) (hK : ((2 ^ k : Nat) : Int) = K) (h0 : 0 ≤ v.toInt) (hM : 0 ≤ M) (hK0 : 0 < K) (h1 : v.toInt * M + v.toInt / K < 9223372036854775808) :
    (v * m + (v.toUInt64 >>> (q &&& 0x3f).toInt64.toUInt64).toInt64).toInt = v.toInt * M + v.toInt / K := by
  have k1 := c_lmul v m
  have k2 := c_lushr v q k hq hk
  have k3 := c_ladd (v * m) (v.toUInt64 >>> (q &&& 0x3f).toInt64.toUInt64).toInt64
  have k4 := rng64 (v * m)
  have k5 := rng64 (v * m + (v.toUInt64 >>> (q &&& 0x3f).toInt64.toUInt64).toInt64)
  rw [hm] at k1
  rw [hK] at k2
  have r := rng64 v
  have e1 : v.toInt % 18446744073709551616 = v.toInt := by omega
  rw [e1] at k2
  have p1 : 0 ≤ v.toInt * M := Int.mul_nonneg h0 hM
  have p2 : 0 ≤ v.toInt / K := Int.ediv_nonneg h0 (by omega)
  generalize v.toInt * M = a at *
  generalize v.toInt / K = b at *
  omega
theorem own_swar (v : Int64) (b0 b1 b2 b3 b4 b5 b6 b7 : Nat) (h0 : b0 < 10) (h1 : b1 < 10) (h2 : b2 < 10) (h3 : b3 < 10) (h4 : b4 < 10) (h5 : b5 < 10) (h6 : b6 < 10) (h7 : b7 < 10)
    (hv : v.toInt = ((b0 + 256 * (b1 + 256 * (b2 + 256 * (b3 + 256 * (b4 + 256 * (b5 + 256 * (b6 + 256 * b7)))))) : Nat) : Int)) :
    (own_s3 (own_s2 (own_s1 v))).toInt = ((10000000 * b0 + 1000000 * b1 + 100000 * b2 + 10000 * b3 + 1000 * b4 + 100 * b5 + 10 * b6 + b7 : Nat) : Int) := by
  have g1 : (own_s1 v).toInt = (((10 * b0 + b1) + 65536 * (10 * b2 + b3) + 4294967296 * (10 * b4 + b5) + 281474976710656 * (10 * b6 + b7) : Nat) : Int) := by
    unfold own_s1
    refine own_m1 _ (10 * b0 + b1) (10 * b1 + b2) (10 * b2 + b3) (10 * b3 + b4) (10 * b4 + b5) (10 * b5 + b6) (10 * b6 + b7) (10 * b7) (by omega) (by omega) (by omega) (by omega) (by omega) (by omega) (by omega) (by omega) ?_
    have d1 : v.toInt / 256 = ((b1 + 256 * (b2 + 256 * (b3 + 256 * (b4 + 256 * (b5 + 256 * (b6 + 256 * b7))))) : Nat) : Int) := by omega
    rw [own_st8 v 10 8 8 10 256 (by decide) (by decide) (by decide) (by decide) (by omega) (by decide) (by decide) (by omega), d1, hv]
    omega
  have g2 : (own_s2 (own_s1 v)).toInt = (((100 * (10 * b0 + b1) + (10 * b2 + b3)) + 4294967296 * (100 * (10 * b4 + b5) + (10 * b6 + b7)) : Nat) : Int) := by
    unfold own_s2
    generalize own_s1 v = u at g1 ⊢
    refine own_m2 _ (100 * (10 * b0 + b1) + (10 * b2 + b3)) (100 * (10 * b2 + b3) + (10 * b4 + b5)) (100 * (10 * b4 + b5) + (10 * b6 + b7)) (100 * (10 * b6 + b7)) (by omega) (by omega) (by omega) (by omega) ?_
    have d1 : u.toInt / 65536 = (((10 * b2 + b3) + 65536 * (10 * b4 + b5) + 4294967296 * (10 * b6 + b7) : Nat) : Int) := by omega
    rw [own_st8 u 100 16 16 100 65536 (by decide) (by decide) (by decide) (by decide) (by omega) (by decide) (by decide) (by omega), d1, g1]
    omega
  unfold own_s3
  generalize own_s2 (own_s1 v) = u at g2 ⊢
  have d1 : u.toInt / 4294967296 = ((100 * (10 * b4 + b5) + (10 * b6 + b7) : Nat) : Int) := by omega
  have k0 := c_maskL (u * 10000 + (u.toUInt64 >>> ((32 : Int32) &&& 0x3f).toInt64.toUInt64).toInt64) 4294967295 32 (by decide) (by decide)
  rw [k0, own_st8 u 10000 32 32 10000 4294967296 (by decide) (by decide) (by decide) (by decide) (by omega) (by decide) (by decide) (by omega), d1, g2, show ((2 ^ 32 : Nat) : Int) = 4294967296 from by decide]
  omega
theorem own_at0 (d : Int32) (h : 0 ≤ d.toInt ∧ d.toInt ≤ 9) : (own_at d 0).toInt = (48 + d.toInt) * 1 := by
  unfold own_at
  have k1 := c_iadd 48 d
  have k2 := c_i2l ((48 : Int32) + d)
  have k3 := rng32 ((48 : Int32) + d)
  have k4 := c_lshl ((48 : Int32) + d).toInt64 ((0 : Int32) <<< ((3 : Int32) &&& 31)) 0 (by decide)
  have k5 := rng64 (((48 : Int32) + d).toInt64 <<< (((0 : Int32) <<< ((3 : Int32) &&& 31)) &&& 0x3f).toInt64)
  have e48 : (48 : Int32).toInt = 48 := by decide
  have k6 : ((48 : Int32) + d).toInt64.toInt = 48 + d.toInt := by omega
  rw [k6, show ((2 ^ 0 : Nat) : Int) = 1 from by decide] at k4
  omega
theorem own_at1 (d : Int32) (h : 0 ≤ d.toInt ∧ d.toInt ≤ 9) : (own_at d 1).toInt = (48 + d.toInt) * 256 := by
  unfold own_at
  have k1 := c_iadd 48 d
  have k2 := c_i2l ((48 : Int32) + d)
  have k3 := rng32 ((48 : Int32) + d)
  have k4 := c_lshl ((48 : Int32) + d).toInt64 ((1 : Int32) <<< ((3 : Int32) &&& 31)) 8 (by decide)
  have k5 := rng64 (((48 : Int32) + d).toInt64 <<< (((1 : Int32) <<< ((3 : Int32) &&& 31)) &&& 0x3f).toInt64)
  have e48 : (48 : Int32).toInt = 48 := by decide
  have k6 : ((48 : Int32) + d).toInt64.toInt = 48 + d.toInt := by omega
  rw [k6, show ((2 ^ 8 : Nat) : Int) = 256 from by decide] at k4
  omega
theorem own_at2 (d : Int32) (h : 0 ≤ d.toInt ∧ d.toInt ≤ 9) : (own_at d 2).toInt = (48 + d.toInt) * 65536 := by
  unfold own_at
  have k1 := c_iadd 48 d
  have k2 := c_i2l ((48 : Int32) + d)
  have k3 := rng32 ((48 : Int32) + d)
  have k4 := c_lshl ((48 : Int32) + d).toInt64 ((2 : Int32) <<< ((3 : Int32) &&& 31)) 16 (by decide)
  have k5 := rng64 (((48 : Int32) + d).toInt64 <<< (((2 : Int32) <<< ((3 : Int32) &&& 31)) &&& 0x3f).toInt64)
  have e48 : (48 : Int32).toInt = 48 := by decide
  have k6 : ((48 : Int32) + d).toInt64.toInt = 48 + d.toInt := by omega
  rw [k6, show ((2 ^ 16 : Nat) : Int) = 65536 from by decide] at k4
  omega
theorem own_at3 (d : Int32) (h : 0 ≤ d.toInt ∧ d.toInt ≤ 9) : (own_at d 3).toInt = (48 + d.toInt) * 16777216 := by
  unfold own_at
  have k1 := c_iadd 48 d
  have k2 := c_i2l ((48 : Int32) + d)
  have k3 := rng32 ((48 : Int32) + d)
  have k4 := c_lshl ((48 : Int32) + d).toInt64 ((3 : Int32) <<< ((3 : Int32) &&& 31)) 24 (by decide)
  have k5 := rng64 (((48 : Int32) + d).toInt64 <<< (((3 : Int32) <<< ((3 : Int32) &&& 31)) &&& 0x3f).toInt64)
  have e48 : (48 : Int32).toInt = 48 := by decide
  have k6 : ((48 : Int32) + d).toInt64.toInt = 48 + d.toInt := by omega
  rw [k6, show ((2 ^ 24 : Nat) : Int) = 16777216 from by decide] at k4
  omega
theorem own_at4 (d : Int32) (h : 0 ≤ d.toInt ∧ d.toInt ≤ 9) : (own_at d 4).toInt = (48 + d.toInt) * 4294967296 := by
  unfold own_at
  have k1 := c_iadd 48 d
  have k2 := c_i2l ((48 : Int32) + d)
  have k3 := rng32 ((48 : Int32) + d)
  have k4 := c_lshl ((48 : Int32) + d).toInt64 ((4 : Int32) <<< ((3 : Int32) &&& 31)) 32 (by decide)
  have k5 := rng64 (((48 : Int32) + d).toInt64 <<< (((4 : Int32) <<< ((3 : Int32) &&& 31)) &&& 0x3f).toInt64)
  have e48 : (48 : Int32).toInt = 48 := by decide
  have k6 : ((48 : Int32) + d).toInt64.toInt = 48 + d.toInt := by omega
  rw [k6, show ((2 ^ 32 : Nat) : Int) = 4294967296 from by decide] at k4
  omega
theorem own_at5 (d : Int32) (h : 0 ≤ d.toInt ∧ d.toInt ≤ 9) : (own_at d 5).toInt = (48 + d.toInt) * 1099511627776 := by
  unfold own_at
  have k1 := c_iadd 48 d
  have k2 := c_i2l ((48 : Int32) + d)
  have k3 := rng32 ((48 : Int32) + d)
  have k4 := c_lshl ((48 : Int32) + d).toInt64 ((5 : Int32) <<< ((3 : Int32) &&& 31)) 40 (by decide)
  have k5 := rng64 (((48 : Int32) + d).toInt64 <<< (((5 : Int32) <<< ((3 : Int32) &&& 31)) &&& 0x3f).toInt64)
  have e48 : (48 : Int32).toInt = 48 := by decide
  have k6 : ((48 : Int32) + d).toInt64.toInt = 48 + d.toInt := by omega
  rw [k6, show ((2 ^ 40 : Nat) : Int) = 1099511627776 from by decide] at k4
  omega
theorem own_at6 (d : Int32) (h : 0 ≤ d.toInt ∧ d.toInt ≤ 9) : (own_at d 6).toInt = (48 + d.toInt) * 281474976710656 := by
  unfold own_at
  have k1 := c_iadd 48 d
  have k2 := c_i2l ((48 : Int32) + d)
  have k3 := rng32 ((48 : Int32) + d)
  have k4 := c_lshl ((48 : Int32) + d).toInt64 ((6 : Int32) <<< ((3 : Int32) &&& 31)) 48 (by decide)
  have k5 := rng64 (((48 : Int32) + d).toInt64 <<< (((6 : Int32) <<< ((3 : Int32) &&& 31)) &&& 0x3f).toInt64)
  have e48 : (48 : Int32).toInt = 48 := by decide
  have k6 : ((48 : Int32) + d).toInt64.toInt = 48 + d.toInt := by omega
  rw [k6, show ((2 ^ 48 : Nat) : Int) = 281474976710656 from by decide] at k4
  omega
theorem own_at7 (d : Int32) (h : 0 ≤ d.toInt ∧ d.toInt ≤ 9) : (own_at d 7).toInt = (48 + d.toInt) * 72057594037927936 := by
  unfold own_at
  have k1 := c_iadd 48 d
  have k2 := c_i2l ((48 : Int32) + d)
  have k3 := rng32 ((48 : Int32) + d)
  have k4 := c_lshl ((48 : Int32) + d).toInt64 ((7 : Int32) <<< ((3 : Int32) &&& 31)) 56 (by decide)
  have k5 := rng64 (((48 : Int32) + d).toInt64 <<< (((7 : Int32) <<< ((3 : Int32) &&& 31)) &&& 0x3f).toInt64)
  have e48 : (48 : Int32).toInt = 48 := by decide
  have k6 : ((48 : Int32) + d).toInt64.toInt = 48 + d.toInt := by omega
  rw [k6, show ((2 ^ 56 : Nat) : Int) = 72057594037927936 from by decide] at k4
  omega
theorem own_dw (d0 d1 d2 d3 d4 d5 d6 d7 : Int32) (h0 : 0 ≤ d0.toInt ∧ d0.toInt ≤ 9) (h1 : 0 ≤ d1.toInt ∧ d1.toInt ≤ 9) (h2 : 0 ≤ d2.toInt ∧ d2.toInt ≤ 9) (h3 : 0 ≤ d3.toInt ∧ d3.toInt ≤ 9) (h4 : 0 ≤ d4.toInt ∧ d4.toInt ≤ 9) (h5 : 0 ≤ d5.toInt ∧ d5.toInt ≤ 9) (h6 : 0 ≤ d6.toInt ∧ d6.toInt ≤ 9) (h7 : 0 ≤ d7.toInt ∧ d7.toInt ≤ 9) :
    (((((((own_at d0 0 ||| own_at d1 1) ||| own_at d2 2) ||| own_at d3 3) ||| own_at d4 4) ||| own_at d5 5) ||| own_at d6 6) ||| own_at d7 7).toInt = (48 + d0.toInt) + 256 * (48 + d1.toInt) + 65536 * (48 + d2.toInt) + 16777216 * (48 + d3.toInt) + 4294967296 * (48 + d4.toInt) + 1099511627776 * (48 + d5.toInt) + 281474976710656 * (48 + d6.toInt) + 72057594037927936 * (48 + d7.toInt) := by
  have a0 := own_at0 d0 h0
  have a1 := own_at1 d1 h1
  have a2 := own_at2 d2 h2
  have a3 := own_at3 d3 h3
  have a4 := own_at4 d4 h4
  have a5 := own_at5 d5 h5
  have a6 := own_at6 d6 h6
  have a7 := own_at7 d7 h7
  generalize own_at d0 0 = y0 at *
  generalize own_at d1 1 = y1 at *
  generalize own_at d2 2 = y2 at *
  generalize own_at d3 3 = y3 at *
  generalize own_at d4 4 = y4 at *
  generalize own_at d5 5 = y5 at *
  generalize own_at d6 6 = y6 at *
  generalize own_at d7 7 = y7 at *
  have o1 := c_orL' y0 y1 8 (by decide) 256 (by decide) (by omega) (by omega) (by omega)
  have r1 := rng64 (y0 ||| y1)
  generalize (y0 ||| y1) = z1 at *
  have o2 := c_orL' z1 y2 16 (by decide) 65536 (by decide) (by omega) (by omega) (by omega)
  have r2 := rng64 (z1 ||| y2)
  generalize (z1 ||| y2) = z2 at *
  have o3 := c_orL' z2 y3 24 (by decide) 16777216 (by decide) (by omega) (by omega) (by omega)
  have r3 := rng64 (z2 ||| y3)
  generalize (z2 ||| y3) = z3 at *
  have o4 := c_orL' z3 y4 32 (by decide) 4294967296 (by decide) (by omega) (by omega) (by omega)
  have r4 := rng64 (z3 ||| y4)
  generalize (z3 ||| y4) = z4 at *
  have o5 := c_orL' z4 y5 40 (by decide) 1099511627776 (by decide) (by omega) (by omega) (by omega)
  have r5 := rng64 (z4 ||| y5)
  generalize (z4 ||| y5) = z5 at *
  have o6 := c_orL' z5 y6 48 (by decide) 281474976710656 (by decide) (by omega) (by omega) (by omega)
  have r6 := rng64 (z5 ||| y6)
  generalize (z5 ||| y6) = z6 at *
  have o7 := c_orL' z6 y7 56 (by decide) 72057594037927936 (by decide) (by omega) (by omega) (by omega)
  have r7 := rng64 (z6 ||| y7)
  omega
theorem own_mix (A R M : Int64) : ((A &&& M) ||| (R &&& (M ^^^ -1))) &&& M = A &&& M := by
  rw [← Int64.toBitVec_inj]
  simp only [Int64.toBitVec_and, Int64.toBitVec_or, Int64.toBitVec_xor]
  have e : (-1 : Int64).toBitVec = BitVec.allOnes 64 := by decide
  rw [e]
  ext i hi
  simp only [BitVec.getElem_and, BitVec.getElem_or, BitVec.getElem_xor, BitVec.getElem_allOnes]
  cases A.toBitVec[i] <;> cases R.toBitVec[i] <;> cases M.toBitVec[i] <;> rfl
theorem own_mix8 (A R : Int64) : ((A &&& -1) ||| (R &&& (-1 ^^^ -1))) = A := by
  rw [← Int64.toBitVec_inj]
  simp only [Int64.toBitVec_and, Int64.toBitVec_or, Int64.toBitVec_xor]
  have e : (-1 : Int64).toBitVec = BitVec.allOnes 64 := by decide
  rw [e]
  ext i hi
  simp only [BitVec.getElem_and, BitVec.getElem_or, BitVec.getElem_xor, BitVec.getElem_allOnes]
  cases A.toBitVec[i] <;> cases R.toBitVec[i] <;> rfl
theorem own_low (A R M : Int64) (k : Nat) (hk : k ≤ 63) (hM : M.toBitVec.toNat = 2 ^ k - 1) : ((A &&& M) ||| (R &&& (M ^^^ -1))).toInt % (2 ^ k : Nat) = A.toInt % (2 ^ k : Nat) := by
  rw [← c_maskL _ M k hk hM, ← c_maskL A M k hk hM, own_mix]
theorem own_horn (e : Int64) (d : Int32) (E : Int) (he : e.toInt = E) (h0 : 0 ≤ E) (hE : E < 100000000) (h : 0 ≤ d.toInt ∧ d.toInt ≤ 9) : (e * 10 + d.toInt64).toInt = 10 * E + d.toInt := by
  have k1 := c_lmul e 10
  have k2 := c_ladd (e * 10) d.toInt64
  have k3 := c_i2l d
  have k4 := rng64 (e * 10)
  have k5 := rng64 (e * 10 + d.toInt64)
  have e10 : (10 : Int64).toInt = 10 := by decide
  rw [e10] at k1
  omega
theorem own_hornN (e : Int64) (d : Int32) (E b : Nat) (he : e.toInt = (E : Int)) (hE : E < 100000000) (hd : d.toInt = (b : Int)) (hb : b ≤ 9) : (e * 10 + d.toInt64).toInt = ((10 * E + b : Nat) : Int) := by
  have k := own_horn e d E he (by omega) (by omega) (by omega)
  rw [k, hd]
  omega
theorem own_nat (d : Int32) (h : 0 ≤ d.toInt ∧ d.toInt ≤ 9) : ∃ b : Nat, d.toInt = (b : Int) ∧ b ≤ 9 := ⟨d.toInt.toNat, by omega, by omega⟩
set_option maxHeartbeats 4000000 in
theorem own_g1 (A w z : Int) (y s D H : Int) (hA : A = D + 48 + 256 * H) (b0 : 0 ≤ D) (b1 : D < 10) (hw : w % 256 = A % 256) (k1 : (y - (w - 3472328296227680304)) % 18446744073709551616 = 0) (k2 : (s - y * 72057594037927936) % 18446744073709551616 = 0) (k3 : -9223372036854775808 ≤ s ∧ s < 9223372036854775808) : s = 72057594037927936 * D := by
  have e1 : y % 256 = D := by omega
  obtain ⟨q, hq⟩ : ∃ q, y = 256 * q + D := ⟨y / 256, by omega⟩
  clear hA hw k1 e1
  subst hq
  omega
theorem own_top1 (b0 : Nat) (l0 : b0 ≤ 9) : b0 < 10 := by omega
theorem own_sp1 (A : Int) (b0 b1 b2 b3 b4 b5 b6 b7 : Nat) (hA : A = (48 + (b0 : Int)) + 256 * (48 + (b1 : Int)) + 65536 * (48 + (b2 : Int)) + 16777216 * (48 + (b3 : Int)) + 4294967296 * (48 + (b4 : Int)) + 1099511627776 * (48 + (b5 : Int)) + 281474976710656 * (48 + (b6 : Int)) + 72057594037927936 * (48 + (b7 : Int))) : A = ((b0 : Nat) : Int) + 48 + 256 * (1 * (48 + (b1 : Int)) + 256 * (48 + (b2 : Int)) + 65536 * (48 + (b3 : Int)) + 16777216 * (48 + (b4 : Int)) + 4294967296 * (48 + (b5 : Int)) + 1099511627776 * (48 + (b6 : Int)) + 281474976710656 * (48 + (b7 : Int))) := by omega
theorem own_sh1 (b0 : Nat) : 72057594037927936 * ((b0 : Nat) : Int) = ((0 + 256 * (0 + 256 * (0 + 256 * (0 + 256 * (0 + 256 * (0 + 256 * (0 + 256 * (b0))))))) : Nat) : Int) := by omega
theorem own_eq1 (b0 : Nat) : ((10000000 * 0 + 1000000 * 0 + 100000 * 0 + 10000 * 0 + 1000 * 0 + 100 * 0 + 10 * 0 + b0 : Nat) : Int) = ((b0 : Nat) : Int) := by omega
set_option maxHeartbeats 4000000 in
theorem own_c1 (d0 d1 d2 d3 d4 d5 d6 d7 : Int32) (A r : Int64) (h0 : 0 ≤ d0.toInt ∧ d0.toInt ≤ 9) (h1 : 0 ≤ d1.toInt ∧ d1.toInt ≤ 9) (h2 : 0 ≤ d2.toInt ∧ d2.toInt ≤ 9) (h3 : 0 ≤ d3.toInt ∧ d3.toInt ≤ 9) (h4 : 0 ≤ d4.toInt ∧ d4.toInt ≤ 9) (h5 : 0 ≤ d5.toInt ∧ d5.toInt ≤ 9) (h6 : 0 ≤ d6.toInt ∧ d6.toInt ≤ 9) (h7 : 0 ≤ d7.toInt ∧ d7.toInt ≤ 9) (hA : A.toInt = (48 + d0.toInt) + 256 * (48 + d1.toInt) + 65536 * (48 + d2.toInt) + 16777216 * (48 + d3.toInt) + 4294967296 * (48 + d4.toInt) + 1099511627776 * (48 + d5.toInt) + 281474976710656 * (48 + d6.toInt) + 72057594037927936 * (48 + d7.toInt)) :
    own_num ((A &&& own_mask 1) ||| (r &&& (own_mask 1 ^^^ -1))) 1 = (own_st 1 7 (own_st 1 6 (own_st 1 5 (own_st 1 4 (own_st 1 3 (own_st 1 2 (own_st 1 1 d0.toInt64 d1) d2) d3) d4) d5) d6) d7) := by
  have hw := own_low A r (own_mask 1) 8 (by decide) (by decide)
  rw [show ((2 ^ 8 : Nat) : Int) = 256 from by decide] at hw
  generalize ((A &&& own_mask 1) ||| (r &&& (own_mask 1 ^^^ -1))) = w at hw ⊢
  obtain ⟨b0, e0, l0⟩ := own_nat d0 h0
  obtain ⟨b1, e1, l1⟩ := own_nat d1 h1
  obtain ⟨b2, e2, l2⟩ := own_nat d2 h2
  obtain ⟨b3, e3, l3⟩ := own_nat d3 h3
  obtain ⟨b4, e4, l4⟩ := own_nat d4 h4
  obtain ⟨b5, e5, l5⟩ := own_nat d5 h5
  obtain ⟨b6, e6, l6⟩ := own_nat d6 h6
  obtain ⟨b7, e7, l7⟩ := own_nat d7 h7
  rw [e0, e1, e2, e3, e4, e5, e6, e7] at hA
  have hA2 := own_sp1 A.toInt b0 b1 b2 b3 b4 b5 b6 b7 hA
  have k1 := c_lsub w 3472328296227680304
  have k2 := c_lshl (w - 3472328296227680304) (((8 : Int32) - 1) <<< ((3 : Int32) &&& 31)) 56 (by decide)
  have k3 := rng64 (own_s0 w 1)
  change ((own_s0 w 1).toInt - _) % _ = 0 at k2
  rw [show ((2 ^ 56 : Nat) : Int) = 72057594037927936 from by decide] at k2
  rw [show (3472328296227680304 : Int64).toInt = 3472328296227680304 from by decide] at k1
  have hs := own_g1 A.toInt w.toInt 0 (w - 3472328296227680304).toInt (own_s0 w 1).toInt _ _ hA2 (Int.natCast_nonneg _) (Int.ofNat_lt.mpr (own_top1 b0 l0)) hw k1 k2 k3
  rw [own_sh1] at hs
  have g := own_swar (own_s0 w 1) 0 0 0 0 0 0 0 b0 (by decide) (by decide) (by decide) (by decide) (by decide) (by decide) (by decide) (Nat.lt_succ_of_le l0) hs
  rw [own_eq1] at g
  clear hs hw k1 k2 k3 hA hA2
  apply Int64.toInt_inj.mp
  unfold own_num
  rw [g]
  have f0 : d0.toInt64.toInt = (b0 : Int) := (c_i2l d0).trans e0
  have f1 : (own_st 1 1 d0.toInt64 d1).toInt = ((b0 : Nat) : Int) := by rw [show own_st 1 1 d0.toInt64 d1 = d0.toInt64 from if_neg (by decide)]; exact f0
  have f2 : (own_st 1 2 (own_st 1 1 d0.toInt64 d1) d2).toInt = ((b0 : Nat) : Int) := by rw [show own_st 1 2 (own_st 1 1 d0.toInt64 d1) d2 = (own_st 1 1 d0.toInt64 d1) from if_neg (by decide)]; exact f1
  have f3 : (own_st 1 3 (own_st 1 2 (own_st 1 1 d0.toInt64 d1) d2) d3).toInt = ((b0 : Nat) : Int) := by rw [show own_st 1 3 (own_st 1 2 (own_st 1 1 d0.toInt64 d1) d2) d3 = (own_st 1 2 (own_st 1 1 d0.toInt64 d1) d2) from if_neg (by decide)]; exact f2
  have f4 : (own_st 1 4 (own_st 1 3 (own_st 1 2 (own_st 1 1 d0.toInt64 d1) d2) d3) d4).toInt = ((b0 : Nat) : Int) := by rw [show own_st 1 4 (own_st 1 3 (own_st 1 2 (own_st 1 1 d0.toInt64 d1) d2) d3) d4 = (own_st 1 3 (own_st 1 2 (own_st 1 1 d0.toInt64 d1) d2) d3) from if_neg (by decide)]; exact f3
  have f5 : (own_st 1 5 (own_st 1 4 (own_st 1 3 (own_st 1 2 (own_st 1 1 d0.toInt64 d1) d2) d3) d4) d5).toInt = ((b0 : Nat) : Int) := by rw [show own_st 1 5 (own_st 1 4 (own_st 1 3 (own_st 1 2 (own_st 1 1 d0.toInt64 d1) d2) d3) d4) d5 = (own_st 1 4 (own_st 1 3 (own_st 1 2 (own_st 1 1 d0.toInt64 d1) d2) d3) d4) from if_neg (by decide)]; exact f4
  have f6 : (own_st 1 6 (own_st 1 5 (own_st 1 4 (own_st 1 3 (own_st 1 2 (own_st 1 1 d0.toInt64 d1) d2) d3) d4) d5) d6).toInt = ((b0 : Nat) : Int) := by rw [show own_st 1 6 (own_st 1 5 (own_st 1 4 (own_st 1 3 (own_st 1 2 (own_st 1 1 d0.toInt64 d1) d2) d3) d4) d5) d6 = (own_st 1 5 (own_st 1 4 (own_st 1 3 (own_st 1 2 (own_st 1 1 d0.toInt64 d1) d2) d3) d4) d5) from if_neg (by decide)]; exact f5
  have f7 : (own_st 1 7 (own_st 1 6 (own_st 1 5 (own_st 1 4 (own_st 1 3 (own_st 1 2 (own_st 1 1 d0.toInt64 d1) d2) d3) d4) d5) d6) d7).toInt = ((b0 : Nat) : Int) := by rw [show own_st 1 7 (own_st 1 6 (own_st 1 5 (own_st 1 4 (own_st 1 3 (own_st 1 2 (own_st 1 1 d0.toInt64 d1) d2) d3) d4) d5) d6) d7 = (own_st 1 6 (own_st 1 5 (own_st 1 4 (own_st 1 3 (own_st 1 2 (own_st 1 1 d0.toInt64 d1) d2) d3) d4) d5) d6) from if_neg (by decide)]; exact f6
  exact f7.symm
set_option maxHeartbeats 4000000 in
theorem own_g2 (A w z : Int) (y s D H : Int) (hA : A = D + 12336 + 65536 * H) (b0 : 0 ≤ D) (b1 : D < 2560) (hw : w % 65536 = A % 65536) (k1 : (y - (w - 3472328296227680304)) % 18446744073709551616 = 0) (k2 : (s - y * 281474976710656) % 18446744073709551616 = 0) (k3 : -9223372036854775808 ≤ s ∧ s < 9223372036854775808) : s = 281474976710656 * D := by
  have e1 : y % 65536 = D := by omega
  obtain ⟨q, hq⟩ : ∃ q, y = 65536 * q + D := ⟨y / 65536, by omega⟩
  clear hA hw k1 e1
  subst hq
  omega
theorem own_top2 (b0 b1 : Nat) (l0 : b0 ≤ 9) (l1 : b1 ≤ 9) : b0 + 256 * (b1) < 2560 := by omega
theorem own_sp2 (A : Int) (b0 b1 b2 b3 b4 b5 b6 b7 : Nat) (hA : A = (48 + (b0 : Int)) + 256 * (48 + (b1 : Int)) + 65536 * (48 + (b2 : Int)) + 16777216 * (48 + (b3 : Int)) + 4294967296 * (48 + (b4 : Int)) + 1099511627776 * (48 + (b5 : Int)) + 281474976710656 * (48 + (b6 : Int)) + 72057594037927936 * (48 + (b7 : Int))) : A = ((b0 + 256 * (b1) : Nat) : Int) + 12336 + 65536 * (1 * (48 + (b2 : Int)) + 256 * (48 + (b3 : Int)) + 65536 * (48 + (b4 : Int)) + 16777216 * (48 + (b5 : Int)) + 4294967296 * (48 + (b6 : Int)) + 1099511627776 * (48 + (b7 : Int))) := by omega
theorem own_sh2 (b0 b1 : Nat) : 281474976710656 * ((b0 + 256 * (b1) : Nat) : Int) = ((0 + 256 * (0 + 256 * (0 + 256 * (0 + 256 * (0 + 256 * (0 + 256 * (b0 + 256 * (b1))))))) : Nat) : Int) := by omega
theorem own_eq2 (b0 b1 : Nat) : ((10000000 * 0 + 1000000 * 0 + 100000 * 0 + 10000 * 0 + 1000 * 0 + 100 * 0 + 10 * b0 + b1 : Nat) : Int) = ((10 * (b0) + b1 : Nat) : Int) := by omega
set_option maxHeartbeats 4000000 in
theorem own_c2 (d0 d1 d2 d3 d4 d5 d6 d7 : Int32) (A r : Int64) (h0 : 0 ≤ d0.toInt ∧ d0.toInt ≤ 9) (h1 : 0 ≤ d1.toInt ∧ d1.toInt ≤ 9) (h2 : 0 ≤ d2.toInt ∧ d2.toInt ≤ 9) (h3 : 0 ≤ d3.toInt ∧ d3.toInt ≤ 9) (h4 : 0 ≤ d4.toInt ∧ d4.toInt ≤ 9) (h5 : 0 ≤ d5.toInt ∧ d5.toInt ≤ 9) (h6 : 0 ≤ d6.toInt ∧ d6.toInt ≤ 9) (h7 : 0 ≤ d7.toInt ∧ d7.toInt ≤ 9) (hA : A.toInt = (48 + d0.toInt) + 256 * (48 + d1.toInt) + 65536 * (48 + d2.toInt) + 16777216 * (48 + d3.toInt) + 4294967296 * (48 + d4.toInt) + 1099511627776 * (48 + d5.toInt) + 281474976710656 * (48 + d6.toInt) + 72057594037927936 * (48 + d7.toInt)) :
    own_num ((A &&& own_mask 2) ||| (r &&& (own_mask 2 ^^^ -1))) 2 = (own_st 2 7 (own_st 2 6 (own_st 2 5 (own_st 2 4 (own_st 2 3 (own_st 2 2 (own_st 2 1 d0.toInt64 d1) d2) d3) d4) d5) d6) d7) := by
  have hw := own_low A r (own_mask 2) 16 (by decide) (by decide)
  rw [show ((2 ^ 16 : Nat) : Int) = 65536 from by decide] at hw
  generalize ((A &&& own_mask 2) ||| (r &&& (own_mask 2 ^^^ -1))) = w at hw ⊢
  obtain ⟨b0, e0, l0⟩ := own_nat d0 h0
  obtain ⟨b1, e1, l1⟩ := own_nat d1 h1
  obtain ⟨b2, e2, l2⟩ := own_nat d2 h2
  obtain ⟨b3, e3, l3⟩ := own_nat d3 h3
  obtain ⟨b4, e4, l4⟩ := own_nat d4 h4
  obtain ⟨b5, e5, l5⟩ := own_nat d5 h5
  obtain ⟨b6, e6, l6⟩ := own_nat d6 h6
  obtain ⟨b7, e7, l7⟩ := own_nat d7 h7
  rw [e0, e1, e2, e3, e4, e5, e6, e7] at hA
  have hA2 := own_sp2 A.toInt b0 b1 b2 b3 b4 b5 b6 b7 hA
  have k1 := c_lsub w 3472328296227680304
  have k2 := c_lshl (w - 3472328296227680304) (((8 : Int32) - 2) <<< ((3 : Int32) &&& 31)) 48 (by decide)
  have k3 := rng64 (own_s0 w 2)
  change ((own_s0 w 2).toInt - _) % _ = 0 at k2
  rw [show ((2 ^ 48 : Nat) : Int) = 281474976710656 from by decide] at k2
  rw [show (3472328296227680304 : Int64).toInt = 3472328296227680304 from by decide] at k1
  have hs := own_g2 A.toInt w.toInt 0 (w - 3472328296227680304).toInt (own_s0 w 2).toInt _ _ hA2 (Int.natCast_nonneg _) (Int.ofNat_lt.mpr (own_top2 b0 b1 l0 l1)) hw k1 k2 k3
  rw [own_sh2] at hs
  have g := own_swar (own_s0 w 2) 0 0 0 0 0 0 b0 b1 (by decide) (by decide) (by decide) (by decide) (by decide) (by decide) (Nat.lt_succ_of_le l0) (Nat.lt_succ_of_le l1) hs
  rw [own_eq2] at g
  clear hs hw k1 k2 k3 hA hA2
  apply Int64.toInt_inj.mp
  unfold own_num
  rw [g]
  have f0 : d0.toInt64.toInt = (b0 : Int) := (c_i2l d0).trans e0
  have f1 : (own_st 2 1 d0.toInt64 d1).toInt = ((10 * (b0) + b1 : Nat) : Int) := by rw [show own_st 2 1 d0.toInt64 d1 = d0.toInt64 * 10 + d1.toInt64 from if_pos (by decide)]; exact own_hornN _ _ _ _ f0 (by omega) e1 l1
  have f2 : (own_st 2 2 (own_st 2 1 d0.toInt64 d1) d2).toInt = ((10 * (b0) + b1 : Nat) : Int) := by rw [show own_st 2 2 (own_st 2 1 d0.toInt64 d1) d2 = (own_st 2 1 d0.toInt64 d1) from if_neg (by decide)]; exact f1
  have f3 : (own_st 2 3 (own_st 2 2 (own_st 2 1 d0.toInt64 d1) d2) d3).toInt = ((10 * (b0) + b1 : Nat) : Int) := by rw [show own_st 2 3 (own_st 2 2 (own_st 2 1 d0.toInt64 d1) d2) d3 = (own_st 2 2 (own_st 2 1 d0.toInt64 d1) d2) from if_neg (by decide)]; exact f2
  have f4 : (own_st 2 4 (own_st 2 3 (own_st 2 2 (own_st 2 1 d0.toInt64 d1) d2) d3) d4).toInt = ((10 * (b0) + b1 : Nat) : Int) := by rw [show own_st 2 4 (own_st 2 3 (own_st 2 2 (own_st 2 1 d0.toInt64 d1) d2) d3) d4 = (own_st 2 3 (own_st 2 2 (own_st 2 1 d0.toInt64 d1) d2) d3) from if_neg (by decide)]; exact f3
  have f5 : (own_st 2 5 (own_st 2 4 (own_st 2 3 (own_st 2 2 (own_st 2 1 d0.toInt64 d1) d2) d3) d4) d5).toInt = ((10 * (b0) + b1 : Nat) : Int) := by rw [show own_st 2 5 (own_st 2 4 (own_st 2 3 (own_st 2 2 (own_st 2 1 d0.toInt64 d1) d2) d3) d4) d5 = (own_st 2 4 (own_st 2 3 (own_st 2 2 (own_st 2 1 d0.toInt64 d1) d2) d3) d4) from if_neg (by decide)]; exact f4
  have f6 : (own_st 2 6 (own_st 2 5 (own_st 2 4 (own_st 2 3 (own_st 2 2 (own_st 2 1 d0.toInt64 d1) d2) d3) d4) d5) d6).toInt = ((10 * (b0) + b1 : Nat) : Int) := by rw [show own_st 2 6 (own_st 2 5 (own_st 2 4 (own_st 2 3 (own_st 2 2 (own_st 2 1 d0.toInt64 d1) d2) d3) d4) d5) d6 = (own_st 2 5 (own_st 2 4 (own_st 2 3 (own_st 2 2 (own_st 2 1 d0.toInt64 d1) d2) d3) d4) d5) from if_neg (by decide)]; exact f5
  have f7 : (own_st 2 7 (own_st 2 6 (own_st 2 5 (own_st 2 4 (own_st 2 3 (own_st 2 2 (own_st 2 1 d0.toInt64 d1) d2) d3) d4) d5) d6) d7).toInt = ((10 * (b0) + b1 : Nat) : Int) := by rw [show own_st 2 7 (own_st 2 6 (own_st 2 5 (own_st 2 4 (own_st 2 3 (own_st 2 2 (own_st 2 1 d0.toInt64 d1) d2) d3) d4) d5) d6) d7 = (own_st 2 6 (own_st 2 5 (own_st 2 4 (own_st 2 3 (own_st 2 2 (own_st 2 1 d0.toInt64 d1) d2) d3) d4) d5) d6) from if_neg (by decide)]; exact f6
  exact f7.symm
set_option maxHeartbeats 4000000 in
theorem own_g3 (A w z : Int) (y s D H : Int) (hA : A = D + 3158064 + 16777216 * H) (b0 : 0 ≤ D) (b1 : D < 655360) (hw : w % 16777216 = A % 16777216) (k1 : (y - (w - 3472328296227680304)) % 18446744073709551616 = 0) (k2 : (s - y * 1099511627776) % 18446744073709551616 = 0) (k3 : -9223372036854775808 ≤ s ∧ s < 9223372036854775808) : s = 1099511627776 * D := by
  have e1 : y % 16777216 = D := by omega
  obtain ⟨q, hq⟩ : ∃ q, y = 16777216 * q + D := ⟨y / 16777216, by omega⟩
  clear hA hw k1 e1
  subst hq
  omega
theorem own_top3 (b0 b1 b2 : Nat) (l0 : b0 ≤ 9) (l1 : b1 ≤ 9) (l2 : b2 ≤ 9) : b0 + 256 * (b1 + 256 * (b2)) < 655360 := by omega
theorem own_sp3 (A : Int) (b0 b1 b2 b3 b4 b5 b6 b7 : Nat) (hA : A = (48 + (b0 : Int)) + 256 * (48 + (b1 : Int)) + 65536 * (48 + (b2 : Int)) + 16777216 * (48 + (b3 : Int)) + 4294967296 * (48 + (b4 : Int)) + 1099511627776 * (48 + (b5 : Int)) + 281474976710656 * (48 + (b6 : Int)) + 72057594037927936 * (48 + (b7 : Int))) : A = ((b0 + 256 * (b1 + 256 * (b2)) : Nat) : Int) + 3158064 + 16777216 * (1 * (48 + (b3 : Int)) + 256 * (48 + (b4 : Int)) + 65536 * (48 + (b5 : Int)) + 16777216 * (48 + (b6 : Int)) + 4294967296 * (48 + (b7 : Int))) := by omega
theorem own_sh3 (b0 b1 b2 : Nat) : 1099511627776 * ((b0 + 256 * (b1 + 256 * (b2)) : Nat) : Int) = ((0 + 256 * (0 + 256 * (0 + 256 * (0 + 256 * (0 + 256 * (b0 + 256 * (b1 + 256 * (b2))))))) : Nat) : Int) := by omega
theorem own_eq3 (b0 b1 b2 : Nat) : ((10000000 * 0 + 1000000 * 0 + 100000 * 0 + 10000 * 0 + 1000 * 0 + 100 * b0 + 10 * b1 + b2 : Nat) : Int) = ((10 * (10 * (b0) + b1) + b2 : Nat) : Int) := by omega
set_option maxHeartbeats 4000000 in
theorem own_c3 (d0 d1 d2 d3 d4 d5 d6 d7 : Int32) (A r : Int64) (h0 : 0 ≤ d0.toInt ∧ d0.toInt ≤ 9) (h1 : 0 ≤ d1.toInt ∧ d1.toInt ≤ 9) (h2 : 0 ≤ d2.toInt ∧ d2.toInt ≤ 9) (h3 : 0 ≤ d3.toInt ∧ d3.toInt ≤ 9) (h4 : 0 ≤ d4.toInt ∧ d4.toInt ≤ 9) (h5 : 0 ≤ d5.toInt ∧ d5.toInt ≤ 9) (h6 : 0 ≤ d6.toInt ∧ d6.toInt ≤ 9) (h7 : 0 ≤ d7.toInt ∧ d7.toInt ≤ 9) (hA : A.toInt = (48 + d0.toInt) + 256 * (48 + d1.toInt) + 65536 * (48 + d2.toInt) + 16777216 * (48 + d3.toInt) + 4294967296 * (48 + d4.toInt) + 1099511627776 * (48 + d5.toInt) + 281474976710656 * (48 + d6.toInt) + 72057594037927936 * (48 + d7.toInt)) :
    own_num ((A &&& own_mask 3) ||| (r &&& (own_mask 3 ^^^ -1))) 3 = (own_st 3 7 (own_st 3 6 (own_st 3 5 (own_st 3 4 (own_st 3 3 (own_st 3 2 (own_st 3 1 d0.toInt64 d1) d2) d3) d4) d5) d6) d7) := by
  have hw := own_low A r (own_mask 3) 24 (by decide) (by decide)
  rw [show ((2 ^ 24 : Nat) : Int) = 16777216 from by decide] at hw
  generalize ((A &&& own_mask 3) ||| (r &&& (own_mask 3 ^^^ -1))) = w at hw ⊢
  obtain ⟨b0, e0, l0⟩ := own_nat d0 h0
  obtain ⟨b1, e1, l1⟩ := own_nat d1 h1
  obtain ⟨b2, e2, l2⟩ := own_nat d2 h2
  obtain ⟨b3, e3, l3⟩ := own_nat d3 h3
  obtain ⟨b4, e4, l4⟩ := own_nat d4 h4
  obtain ⟨b5, e5, l5⟩ := own_nat d5 h5
  obtain ⟨b6, e6, l6⟩ := own_nat d6 h6
  obtain ⟨b7, e7, l7⟩ := own_nat d7 h7
  rw [e0, e1, e2, e3, e4, e5, e6, e7] at hA
  have hA2 := own_sp3 A.toInt b0 b1 b2 b3 b4 b5 b6 b7 hA
  have k1 := c_lsub w 3472328296227680304
  have k2 := c_lshl (w - 3472328296227680304) (((8 : Int32) - 3) <<< ((3 : Int32) &&& 31)) 40 (by decide)
  have k3 := rng64 (own_s0 w 3)
  change ((own_s0 w 3).toInt - _) % _ = 0 at k2
  rw [show ((2 ^ 40 : Nat) : Int) = 1099511627776 from by decide] at k2
  rw [show (3472328296227680304 : Int64).toInt = 3472328296227680304 from by decide] at k1
  have hs := own_g3 A.toInt w.toInt 0 (w - 3472328296227680304).toInt (own_s0 w 3).toInt _ _ hA2 (Int.natCast_nonneg _) (Int.ofNat_lt.mpr (own_top3 b0 b1 b2 l0 l1 l2)) hw k1 k2 k3
  rw [own_sh3] at hs
  have g := own_swar (own_s0 w 3) 0 0 0 0 0 b0 b1 b2 (by decide) (by decide) (by decide) (by decide) (by decide) (Nat.lt_succ_of_le l0) (Nat.lt_succ_of_le l1) (Nat.lt_succ_of_le l2) hs
  rw [own_eq3] at g
  clear hs hw k1 k2 k3 hA hA2
  apply Int64.toInt_inj.mp
  unfold own_num
  rw [g]
  have f0 : d0.toInt64.toInt = (b0 : Int) := (c_i2l d0).trans e0
  have f1 : (own_st 3 1 d0.toInt64 d1).toInt = ((10 * (b0) + b1 : Nat) : Int) := by rw [show own_st 3 1 d0.toInt64 d1 = d0.toInt64 * 10 + d1.toInt64 from if_pos (by decide)]; exact own_hornN _ _ _ _ f0 (by omega) e1 l1
  have f2 : (own_st 3 2 (own_st 3 1 d0.toInt64 d1) d2).toInt = ((10 * (10 * (b0) + b1) + b2 : Nat) : Int) := by rw [show own_st 3 2 (own_st 3 1 d0.toInt64 d1) d2 = (own_st 3 1 d0.toInt64 d1) * 10 + d2.toInt64 from if_pos (by decide)]; exact own_hornN _ _ _ _ f1 (by omega) e2 l2
  have f3 : (own_st 3 3 (own_st 3 2 (own_st 3 1 d0.toInt64 d1) d2) d3).toInt = ((10 * (10 * (b0) + b1) + b2 : Nat) : Int) := by rw [show own_st 3 3 (own_st 3 2 (own_st 3 1 d0.toInt64 d1) d2) d3 = (own_st 3 2 (own_st 3 1 d0.toInt64 d1) d2) from if_neg (by decide)]; exact f2
  have f4 : (own_st 3 4 (own_st 3 3 (own_st 3 2 (own_st 3 1 d0.toInt64 d1) d2) d3) d4).toInt = ((10 * (10 * (b0) + b1) + b2 : Nat) : Int) := by rw [show own_st 3 4 (own_st 3 3 (own_st 3 2 (own_st 3 1 d0.toInt64 d1) d2) d3) d4 = (own_st 3 3 (own_st 3 2 (own_st 3 1 d0.toInt64 d1) d2) d3) from if_neg (by decide)]; exact f3
  have f5 : (own_st 3 5 (own_st 3 4 (own_st 3 3 (own_st 3 2 (own_st 3 1 d0.toInt64 d1) d2) d3) d4) d5).toInt = ((10 * (10 * (b0) + b1) + b2 : Nat) : Int) := by rw [show own_st 3 5 (own_st 3 4 (own_st 3 3 (own_st 3 2 (own_st 3 1 d0.toInt64 d1) d2) d3) d4) d5 = (own_st 3 4 (own_st 3 3 (own_st 3 2 (own_st 3 1 d0.toInt64 d1) d2) d3) d4) from if_neg (by decide)]; exact f4
  have f6 : (own_st 3 6 (own_st 3 5 (own_st 3 4 (own_st 3 3 (own_st 3 2 (own_st 3 1 d0.toInt64 d1) d2) d3) d4) d5) d6).toInt = ((10 * (10 * (b0) + b1) + b2 : Nat) : Int) := by rw [show own_st 3 6 (own_st 3 5 (own_st 3 4 (own_st 3 3 (own_st 3 2 (own_st 3 1 d0.toInt64 d1) d2) d3) d4) d5) d6 = (own_st 3 5 (own_st 3 4 (own_st 3 3 (own_st 3 2 (own_st 3 1 d0.toInt64 d1) d2) d3) d4) d5) from if_neg (by decide)]; exact f5
  have f7 : (own_st 3 7 (own_st 3 6 (own_st 3 5 (own_st 3 4 (own_st 3 3 (own_st 3 2 (own_st 3 1 d0.toInt64 d1) d2) d3) d4) d5) d6) d7).toInt = ((10 * (10 * (b0) + b1) + b2 : Nat) : Int) := by rw [show own_st 3 7 (own_st 3 6 (own_st 3 5 (own_st 3 4 (own_st 3 3 (own_st 3 2 (own_st 3 1 d0.toInt64 d1) d2) d3) d4) d5) d6) d7 = (own_st 3 6 (own_st 3 5 (own_st 3 4 (own_st 3 3 (own_st 3 2 (own_st 3 1 d0.toInt64 d1) d2) d3) d4) d5) d6) from if_neg (by decide)]; exact f6
  exact f7.symm
set_option maxHeartbeats 4000000 in
theorem own_g4 (A w z : Int) (y s D H : Int) (hA : A = D + 808464432 + 4294967296 * H) (b0 : 0 ≤ D) (b1 : D < 167772160) (hw : w % 4294967296 = A % 4294967296) (k1 : (y - (w - 3472328296227680304)) % 18446744073709551616 = 0) (k2 : (s - y * 4294967296) % 18446744073709551616 = 0) (k3 : -9223372036854775808 ≤ s ∧ s < 9223372036854775808) : s = 4294967296 * D := by
  have e1 : y % 4294967296 = D := by omega
  obtain ⟨q, hq⟩ : ∃ q, y = 4294967296 * q + D := ⟨y / 4294967296, by omega⟩
  clear hA hw k1 e1
  subst hq
  omega
theorem own_top4 (b0 b1 b2 b3 : Nat) (l0 : b0 ≤ 9) (l1 : b1 ≤ 9) (l2 : b2 ≤ 9) (l3 : b3 ≤ 9) : b0 + 256 * (b1 + 256 * (b2 + 256 * (b3))) < 167772160 := by omega
theorem own_sp4 (A : Int) (b0 b1 b2 b3 b4 b5 b6 b7 : Nat) (hA : A = (48 + (b0 : Int)) + 256 * (48 + (b1 : Int)) + 65536 * (48 + (b2 : Int)) + 16777216 * (48 + (b3 : Int)) + 4294967296 * (48 + (b4 : Int)) + 1099511627776 * (48 + (b5 : Int)) + 281474976710656 * (48 + (b6 : Int)) + 72057594037927936 * (48 + (b7 : Int))) : A = ((b0 + 256 * (b1 + 256 * (b2 + 256 * (b3))) : Nat) : Int) + 808464432 + 4294967296 * (1 * (48 + (b4 : Int)) + 256 * (48 + (b5 : Int)) + 65536 * (48 + (b6 : Int)) + 16777216 * (48 + (b7 : Int))) := by omega
theorem own_sh4 (b0 b1 b2 b3 : Nat) : 4294967296 * ((b0 + 256 * (b1 + 256 * (b2 + 256 * (b3))) : Nat) : Int) = ((0 + 256 * (0 + 256 * (0 + 256 * (0 + 256 * (b0 + 256 * (b1 + 256 * (b2 + 256 * (b3))))))) : Nat) : Int) := by omega
theorem own_eq4 (b0 b1 b2 b3 : Nat) : ((10000000 * 0 + 1000000 * 0 + 100000 * 0 + 10000 * 0 + 1000 * b0 + 100 * b1 + 10 * b2 + b3 : Nat) : Int) = ((10 * (10 * (10 * (b0) + b1) + b2) + b3 : Nat) : Int) := by omega
set_option maxHeartbeats 4000000 in
theorem own_c4 (d0 d1 d2 d3 d4 d5 d6 d7 : Int32) (A r : Int64) (h0 : 0 ≤ d0.toInt ∧ d0.toInt ≤ 9) (h1 : 0 ≤ d1.toInt ∧ d1.toInt ≤ 9) (h2 : 0 ≤ d2.toInt ∧ d2.toInt ≤ 9) (h3 : 0 ≤ d3.toInt ∧ d3.toInt ≤ 9) (h4 : 0 ≤ d4.toInt ∧ d4.toInt ≤ 9) (h5 : 0 ≤ d5.toInt ∧ d5.toInt ≤ 9) (h6 : 0 ≤ d6.toInt ∧ d6.toInt ≤ 9) (h7 : 0 ≤ d7.toInt ∧ d7.toInt ≤ 9) (hA : A.toInt = (48 + d0.toInt) + 256 * (48 + d1.toInt) + 65536 * (48 + d2.toInt) + 16777216 * (48 + d3.toInt) + 4294967296 * (48 + d4.toInt) + 1099511627776 * (48 + d5.toInt) + 281474976710656 * (48 + d6.toInt) + 72057594037927936 * (48 + d7.toInt)) :
    own_num ((A &&& own_mask 4) ||| (r &&& (own_mask 4 ^^^ -1))) 4 = (own_st 4 7 (own_st 4 6 (own_st 4 5 (own_st 4 4 (own_st 4 3 (own_st 4 2 (own_st 4 1 d0.toInt64 d1) d2) d3) d4) d5) d6) d7) := by
  have hw := own_low A r (own_mask 4) 32 (by decide) (by decide)
  rw [show ((2 ^ 32 : Nat) : Int) = 4294967296 from by decide] at hw
  generalize ((A &&& own_mask 4) ||| (r &&& (own_mask 4 ^^^ -1))) = w at hw ⊢
  obtain ⟨b0, e0, l0⟩ := own_nat d0 h0
  obtain ⟨b1, e1, l1⟩ := own_nat d1 h1
  obtain ⟨b2, e2, l2⟩ := own_nat d2 h2
  obtain ⟨b3, e3, l3⟩ := own_nat d3 h3
  obtain ⟨b4, e4, l4⟩ := own_nat d4 h4
  obtain ⟨b5, e5, l5⟩ := own_nat d5 h5
  obtain ⟨b6, e6, l6⟩ := own_nat d6 h6
  obtain ⟨b7, e7, l7⟩ := own_nat d7 h7
  rw [e0, e1, e2, e3, e4, e5, e6, e7] at hA
  have hA2 := own_sp4 A.toInt b0 b1 b2 b3 b4 b5 b6 b7 hA
  have k1 := c_lsub w 3472328296227680304
  have k2 := c_lshl (w - 3472328296227680304) (((8 : Int32) - 4) <<< ((3 : Int32) &&& 31)) 32 (by decide)
  have k3 := rng64 (own_s0 w 4)
  change ((own_s0 w 4).toInt - _) % _ = 0 at k2
  rw [show ((2 ^ 32 : Nat) : Int) = 4294967296 from by decide] at k2
  rw [show (3472328296227680304 : Int64).toInt = 3472328296227680304 from by decide] at k1
  have hs := own_g4 A.toInt w.toInt 0 (w - 3472328296227680304).toInt (own_s0 w 4).toInt _ _ hA2 (Int.natCast_nonneg _) (Int.ofNat_lt.mpr (own_top4 b0 b1 b2 b3 l0 l1 l2 l3)) hw k1 k2 k3
  rw [own_sh4] at hs
  have g := own_swar (own_s0 w 4) 0 0 0 0 b0 b1 b2 b3 (by decide) (by decide) (by decide) (by decide) (Nat.lt_succ_of_le l0) (Nat.lt_succ_of_le l1) (Nat.lt_succ_of_le l2) (Nat.lt_succ_of_le l3) hs
  rw [own_eq4] at g
  clear hs hw k1 k2 k3 hA hA2
  apply Int64.toInt_inj.mp
  unfold own_num
  rw [g]
  have f0 : d0.toInt64.toInt = (b0 : Int) := (c_i2l d0).trans e0
  have f1 : (own_st 4 1 d0.toInt64 d1).toInt = ((10 * (b0) + b1 : Nat) : Int) := by rw [show own_st 4 1 d0.toInt64 d1 = d0.toInt64 * 10 + d1.toInt64 from if_pos (by decide)]; exact own_hornN _ _ _ _ f0 (by omega) e1 l1
  have f2 : (own_st 4 2 (own_st 4 1 d0.toInt64 d1) d2).toInt = ((10 * (10 * (b0) + b1) + b2 : Nat) : Int) := by rw [show own_st 4 2 (own_st 4 1 d0.toInt64 d1) d2 = (own_st 4 1 d0.toInt64 d1) * 10 + d2.toInt64 from if_pos (by decide)]; exact own_hornN _ _ _ _ f1 (by omega) e2 l2
  have f3 : (own_st 4 3 (own_st 4 2 (own_st 4 1 d0.toInt64 d1) d2) d3).toInt = ((10 * (10 * (10 * (b0) + b1) + b2) + b3 : Nat) : Int) := by rw [show own_st 4 3 (own_st 4 2 (own_st 4 1 d0.toInt64 d1) d2) d3 = (own_st 4 2 (own_st 4 1 d0.toInt64 d1) d2) * 10 + d3.toInt64 from if_pos (by decide)]; exact own_hornN _ _ _ _ f2 (by omega) e3 l3
  have f4 : (own_st 4 4 (own_st 4 3 (own_st 4 2 (own_st 4 1 d0.toInt64 d1) d2) d3) d4).toInt = ((10 * (10 * (10 * (b0) + b1) + b2) + b3 : Nat) : Int) := by rw [show own_st 4 4 (own_st 4 3 (own_st 4 2 (own_st 4 1 d0.toInt64 d1) d2) d3) d4 = (own_st 4 3 (own_st 4 2 (own_st 4 1 d0.toInt64 d1) d2) d3) from if_neg (by decide)]; exact f3
  have f5 : (own_st 4 5 (own_st 4 4 (own_st 4 3 (own_st 4 2 (own_st 4 1 d0.toInt64 d1) d2) d3) d4) d5).toInt = ((10 * (10 * (10 * (b0) + b1) + b2) + b3 : Nat) : Int) := by rw [show own_st 4 5 (own_st 4 4 (own_st 4 3 (own_st 4 2 (own_st 4 1 d0.toInt64 d1) d2) d3) d4) d5 = (own_st 4 4 (own_st 4 3 (own_st 4 2 (own_st 4 1 d0.toInt64 d1) d2) d3) d4) from if_neg (by decide)]; exact f4
  have f6 : (own_st 4 6 (own_st 4 5 (own_st 4 4 (own_st 4 3 (own_st 4 2 (own_st 4 1 d0.toInt64 d1) d2) d3) d4) d5) d6).toInt = ((10 * (10 * (10 * (b0) + b1) + b2) + b3 : Nat) : Int) := by rw [show own_st 4 6 (own_st 4 5 (own_st 4 4 (own_st 4 3 (own_st 4 2 (own_st 4 1 d0.toInt64 d1) d2) d3) d4) d5) d6 = (own_st 4 5 (own_st 4 4 (own_st 4 3 (own_st 4 2 (own_st 4 1 d0.toInt64 d1) d2) d3) d4) d5) from if_neg (by decide)]; exact f5
  have f7 : (own_st 4 7 (own_st 4 6 (own_st 4 5 (own_st 4 4 (own_st 4 3 (own_st 4 2 (own_st 4 1 d0.toInt64 d1) d2) d3) d4) d5) d6) d7).toInt = ((10 * (10 * (10 * (b0) + b1) + b2) + b3 : Nat) : Int) := by rw [show own_st 4 7 (own_st 4 6 (own_st 4 5 (own_st 4 4 (own_st 4 3 (own_st 4 2 (own_st 4 1 d0.toInt64 d1) d2) d3) d4) d5) d6) d7 = (own_st 4 6 (own_st 4 5 (own_st 4 4 (own_st 4 3 (own_st 4 2 (own_st 4 1 d0.toInt64 d1) d2) d3) d4) d5) d6) from if_neg (by decide)]; exact f6
  exact f7.symm
set_option maxHeartbeats 4000000 in
theorem own_g5 (A w z : Int) (y s D H : Int) (hA : A = D + 206966894640 + 1099511627776 * H) (b0 : 0 ≤ D) (b1 : D < 42949672960) (hw : w % 1099511627776 = A % 1099511627776) (k1 : (y - (w - 3472328296227680304)) % 18446744073709551616 = 0) (k2 : (s - y * 16777216) % 18446744073709551616 = 0) (k3 : -9223372036854775808 ≤ s ∧ s < 9223372036854775808) : s = 16777216 * D := by
  have e1 : y % 1099511627776 = D := by omega
  obtain ⟨q, hq⟩ : ∃ q, y = 1099511627776 * q + D := ⟨y / 1099511627776, by omega⟩
  clear hA hw k1 e1
  subst hq
  omega
theorem own_top5 (b0 b1 b2 b3 b4 : Nat) (l0 : b0 ≤ 9) (l1 : b1 ≤ 9) (l2 : b2 ≤ 9) (l3 : b3 ≤ 9) (l4 : b4 ≤ 9) : b0 + 256 * (b1 + 256 * (b2 + 256 * (b3 + 256 * (b4)))) < 42949672960 := by omega
theorem own_sp5 (A : Int) (b0 b1 b2 b3 b4 b5 b6 b7 : Nat) (hA : A = (48 + (b0 : Int)) + 256 * (48 + (b1 : Int)) + 65536 * (48 + (b2 : Int)) + 16777216 * (48 + (b3 : Int)) + 4294967296 * (48 + (b4 : Int)) + 1099511627776 * (48 + (b5 : Int)) + 281474976710656 * (48 + (b6 : Int)) + 72057594037927936 * (48 + (b7 : Int))) : A = ((b0 + 256 * (b1 + 256 * (b2 + 256 * (b3 + 256 * (b4)))) : Nat) : Int) + 206966894640 + 1099511627776 * (1 * (48 + (b5 : Int)) + 256 * (48 + (b6 : Int)) + 65536 * (48 + (b7 : Int))) := by omega
theorem own_sh5 (b0 b1 b2 b3 b4 : Nat) : 16777216 * ((b0 + 256 * (b1 + 256 * (b2 + 256 * (b3 + 256 * (b4)))) : Nat) : Int) = ((0 + 256 * (0 + 256 * (0 + 256 * (b0 + 256 * (b1 + 256 * (b2 + 256 * (b3 + 256 * (b4))))))) : Nat) : Int) := by omega
theorem own_eq5 (b0 b1 b2 b3 b4 : Nat) : ((10000000 * 0 + 1000000 * 0 + 100000 * 0 + 10000 * b0 + 1000 * b1 + 100 * b2 + 10 * b3 + b4 : Nat) : Int) = ((10 * (10 * (10 * (10 * (b0) + b1) + b2) + b3) + b4 : Nat) : Int) := by omega
set_option maxHeartbeats 4000000 in
theorem own_c5 (d0 d1 d2 d3 d4 d5 d6 d7 : Int32) (A r : Int64) (h0 : 0 ≤ d0.toInt ∧ d0.toInt ≤ 9) (h1 : 0 ≤ d1.toInt ∧ d1.toInt ≤ 9) (h2 : 0 ≤ d2.toInt ∧ d2.toInt ≤ 9) (h3 : 0 ≤ d3.toInt ∧ d3.toInt ≤ 9) (h4 : 0 ≤ d4.toInt ∧ d4.toInt ≤ 9) (h5 : 0 ≤ d5.toInt ∧ d5.toInt ≤ 9) (h6 : 0 ≤ d6.toInt ∧ d6.toInt ≤ 9) (h7 : 0 ≤ d7.toInt ∧ d7.toInt ≤ 9) (hA : A.toInt = (48 + d0.toInt) + 256 * (48 + d1.toInt) + 65536 * (48 + d2.toInt) + 16777216 * (48 + d3.toInt) + 4294967296 * (48 + d4.toInt) + 1099511627776 * (48 + d5.toInt) + 281474976710656 * (48 + d6.toInt) + 72057594037927936 * (48 + d7.toInt)) :
    own_num ((A &&& own_mask 5) ||| (r &&& (own_mask 5 ^^^ -1))) 5 = (own_st 5 7 (own_st 5 6 (own_st 5 5 (own_st 5 4 (own_st 5 3 (own_st 5 2 (own_st 5 1 d0.toInt64 d1) d2) d3) d4) d5) d6) d7) := by
  have hw := own_low A r (own_mask 5) 40 (by decide) (by decide)
  rw [show ((2 ^ 40 : Nat) : Int) = 1099511627776 from by decide] at hw
  generalize ((A &&& own_mask 5) ||| (r &&& (own_mask 5 ^^^ -1))) = w at hw ⊢
  obtain ⟨b0, e0, l0⟩ := own_nat d0 h0
  obtain ⟨b1, e1, l1⟩ := own_nat d1 h1
  obtain ⟨b2, e2, l2⟩ := own_nat d2 h2
  obtain ⟨b3, e3, l3⟩ := own_nat d3 h3
  obtain ⟨b4, e4, l4⟩ := own_nat d4 h4
  obtain ⟨b5, e5, l5⟩ := own_nat d5 h5
  obtain ⟨b6, e6, l6⟩ := own_nat d6 h6
  obtain ⟨b7, e7, l7⟩ := own_nat d7 h7
  rw [e0, e1, e2, e3, e4, e5, e6, e7] at hA
  have hA2 := own_sp5 A.toInt b0 b1 b2 b3 b4 b5 b6 b7 hA
  have k1 := c_lsub w 3472328296227680304
  have k2 := c_lshl (w - 3472328296227680304) (((8 : Int32) - 5) <<< ((3 : Int32) &&& 31)) 24 (by decide)
  have k3 := rng64 (own_s0 w 5)
  change ((own_s0 w 5).toInt - _) % _ = 0 at k2
  rw [show ((2 ^ 24 : Nat) : Int) = 16777216 from by decide] at k2
  rw [show (3472328296227680304 : Int64).toInt = 3472328296227680304 from by decide] at k1
  have hs := own_g5 A.toInt w.toInt 0 (w - 3472328296227680304).toInt (own_s0 w 5).toInt _ _ hA2 (Int.natCast_nonneg _) (Int.ofNat_lt.mpr (own_top5 b0 b1 b2 b3 b4 l0 l1 l2 l3 l4)) hw k1 k2 k3
  rw [own_sh5] at hs
  have g := own_swar (own_s0 w 5) 0 0 0 b0 b1 b2 b3 b4 (by decide) (by decide) (by decide) (Nat.lt_succ_of_le l0) (Nat.lt_succ_of_le l1) (Nat.lt_succ_of_le l2) (Nat.lt_succ_of_le l3) (Nat.lt_succ_of_le l4) hs
  rw [own_eq5] at g
  clear hs hw k1 k2 k3 hA hA2
  apply Int64.toInt_inj.mp
  unfold own_num
  rw [g]
  have f0 : d0.toInt64.toInt = (b0 : Int) := (c_i2l d0).trans e0
  have f1 : (own_st 5 1 d0.toInt64 d1).toInt = ((10 * (b0) + b1 : Nat) : Int) := by rw [show own_st 5 1 d0.toInt64 d1 = d0.toInt64 * 10 + d1.toInt64 from if_pos (by decide)]; exact own_hornN _ _ _ _ f0 (by omega) e1 l1
  have f2 : (own_st 5 2 (own_st 5 1 d0.toInt64 d1) d2).toInt = ((10 * (10 * (b0) + b1) + b2 : Nat) : Int) := by rw [show own_st 5 2 (own_st 5 1 d0.toInt64 d1) d2 = (own_st 5 1 d0.toInt64 d1) * 10 + d2.toInt64 from if_pos (by decide)]; exact own_hornN _ _ _ _ f1 (by omega) e2 l2
  have f3 : (own_st 5 3 (own_st 5 2 (own_st 5 1 d0.toInt64 d1) d2) d3).toInt = ((10 * (10 * (10 * (b0) + b1) + b2) + b3 : Nat) : Int) := by rw [show own_st 5 3 (own_st 5 2 (own_st 5 1 d0.toInt64 d1) d2) d3 = (own_st 5 2 (own_st 5 1 d0.toInt64 d1) d2) * 10 + d3.toInt64 from if_pos (by decide)]; exact own_hornN _ _ _ _ f2 (by omega) e3 l3
  have f4 : (own_st 5 4 (own_st 5 3 (own_st 5 2 (own_st 5 1 d0.toInt64 d1) d2) d3) d4).toInt = ((10 * (10 * (10 * (10 * (b0) + b1) + b2) + b3) + b4 : Nat) : Int) := by rw [show own_st 5 4 (own_st 5 3 (own_st 5 2 (own_st 5 1 d0.toInt64 d1) d2) d3) d4 = (own_st 5 3 (own_st 5 2 (own_st 5 1 d0.toInt64 d1) d2) d3) * 10 + d4.toInt64 from if_pos (by decide)]; exact own_hornN _ _ _ _ f3 (by omega) e4 l4
  have f5 : (own_st 5 5 (own_st 5 4 (own_st 5 3 (own_st 5 2 (own_st 5 1 d0.toInt64 d1) d2) d3) d4) d5).toInt = ((10 * (10 * (10 * (10 * (b0) + b1) + b2) + b3) + b4 : Nat) : Int) := by rw [show own_st 5 5 (own_st 5 4 (own_st 5 3 (own_st 5 2 (own_st 5 1 d0.toInt64 d1) d2) d3) d4) d5 = (own_st 5 4 (own_st 5 3 (own_st 5 2 (own_st 5 1 d0.toInt64 d1) d2) d3) d4) from if_neg (by decide)]; exact f4
  have f6 : (own_st 5 6 (own_st 5 5 (own_st 5 4 (own_st 5 3 (own_st 5 2 (own_st 5 1 d0.toInt64 d1) d2) d3) d4) d5) d6).toInt = ((10 * (10 * (10 * (10 * (b0) + b1) + b2) + b3) + b4 : Nat) : Int) := by rw [show own_st 5 6 (own_st 5 5 (own_st 5 4 (own_st 5 3 (own_st 5 2 (own_st 5 1 d0.toInt64 d1) d2) d3) d4) d5) d6 = (own_st 5 5 (own_st 5 4 (own_st 5 3 (own_st 5 2 (own_st 5 1 d0.toInt64 d1) d2) d3) d4) d5) from if_neg (by decide)]; exact f5
  have f7 : (own_st 5 7 (own_st 5 6 (own_st 5 5 (own_st 5 4 (own_st 5 3 (own_st 5 2 (own_st 5 1 d0.toInt64 d1) d2) d3) d4) d5) d6) d7).toInt = ((10 * (10 * (10 * (10 * (b0) + b1) + b2) + b3) + b4 : Nat) : Int) := by rw [show own_st 5 7 (own_st 5 6 (own_st 5 5 (own_st 5 4 (own_st 5 3 (own_st 5 2 (own_st 5 1 d0.toInt64 d1) d2) d3) d4) d5) d6) d7 = (own_st 5 6 (own_st 5 5 (own_st 5 4 (own_st 5 3 (own_st 5 2 (own_st 5 1 d0.toInt64 d1) d2) d3) d4) d5) d6) from if_neg (by decide)]; exact f6
  exact f7.symm
set_option maxHeartbeats 4000000 in
theorem own_g6 (A w z : Int) (y s D H : Int) (hA : A = D + 52983525027888 + 281474976710656 * H) (b0 : 0 ≤ D) (b1 : D < 10995116277760) (hw : w % 281474976710656 = A % 281474976710656) (k1 : (y - (w - 3472328296227680304)) % 18446744073709551616 = 0) (k2 : (s - y * 65536) % 18446744073709551616 = 0) (k3 : -9223372036854775808 ≤ s ∧ s < 9223372036854775808) : s = 65536 * D := by
  have e1 : y % 281474976710656 = D := by omega
  obtain ⟨q, hq⟩ : ∃ q, y = 281474976710656 * q + D := ⟨y / 281474976710656, by omega⟩
  clear hA hw k1 e1
  subst hq
  omega
theorem own_top6 (b0 b1 b2 b3 b4 b5 : Nat) (l0 : b0 ≤ 9) (l1 : b1 ≤ 9) (l2 : b2 ≤ 9) (l3 : b3 ≤ 9) (l4 : b4 ≤ 9) (l5 : b5 ≤ 9) : b0 + 256 * (b1 + 256 * (b2 + 256 * (b3 + 256 * (b4 + 256 * (b5))))) < 10995116277760 := by omega
theorem own_sp6 (A : Int) (b0 b1 b2 b3 b4 b5 b6 b7 : Nat) (hA : A = (48 + (b0 : Int)) + 256 * (48 + (b1 : Int)) + 65536 * (48 + (b2 : Int)) + 16777216 * (48 + (b3 : Int)) + 4294967296 * (48 + (b4 : Int)) + 1099511627776 * (48 + (b5 : Int)) + 281474976710656 * (48 + (b6 : Int)) + 72057594037927936 * (48 + (b7 : Int))) : A = ((b0 + 256 * (b1 + 256 * (b2 + 256 * (b3 + 256 * (b4 + 256 * (b5))))) : Nat) : Int) + 52983525027888 + 281474976710656 * (1 * (48 + (b6 : Int)) + 256 * (48 + (b7 : Int))) := by omega
theorem own_sh6 (b0 b1 b2 b3 b4 b5 : Nat) : 65536 * ((b0 + 256 * (b1 + 256 * (b2 + 256 * (b3 + 256 * (b4 + 256 * (b5))))) : Nat) : Int) = ((0 + 256 * (0 + 256 * (b0 + 256 * (b1 + 256 * (b2 + 256 * (b3 + 256 * (b4 + 256 * (b5))))))) : Nat) : Int) := by omega
theorem own_eq6 (b0 b1 b2 b3 b4 b5 : Nat) : ((10000000 * 0 + 1000000 * 0 + 100000 * b0 + 10000 * b1 + 1000 * b2 + 100 * b3 + 10 * b4 + b5 : Nat) : Int) = ((10 * (10 * (10 * (10 * (10 * (b0) + b1) + b2) + b3) + b4) + b5 : Nat) : Int) := by omega
set_option maxHeartbeats 4000000 in
theorem own_c6 (d0 d1 d2 d3 d4 d5 d6 d7 : Int32) (A r : Int64) (h0 : 0 ≤ d0.toInt ∧ d0.toInt ≤ 9) (h1 : 0 ≤ d1.toInt ∧ d1.toInt ≤ 9) (h2 : 0 ≤ d2.toInt ∧ d2.toInt ≤ 9) (h3 : 0 ≤ d3.toInt ∧ d3.toInt ≤ 9) (h4 : 0 ≤ d4.toInt ∧ d4.toInt ≤ 9) (h5 : 0 ≤ d5.toInt ∧ d5.toInt ≤ 9) (h6 : 0 ≤ d6.toInt ∧ d6.toInt ≤ 9) (h7 : 0 ≤ d7.toInt ∧ d7.toInt ≤ 9) (hA : A.toInt = (48 + d0.toInt) + 256 * (48 + d1.toInt) + 65536 * (48 + d2.toInt) + 16777216 * (48 + d3.toInt) + 4294967296 * (48 + d4.toInt) + 1099511627776 * (48 + d5.toInt) + 281474976710656 * (48 + d6.toInt) + 72057594037927936 * (48 + d7.toInt)) :
    own_num ((A &&& own_mask 6) ||| (r &&& (own_mask 6 ^^^ -1))) 6 = (own_st 6 7 (own_st 6 6 (own_st 6 5 (own_st 6 4 (own_st 6 3 (own_st 6 2 (own_st 6 1 d0.toInt64 d1) d2) d3) d4) d5) d6) d7) := by
  have hw := own_low A r (own_mask 6) 48 (by decide) (by decide)
  rw [show ((2 ^ 48 : Nat) : Int) = 281474976710656 from by decide] at hw
  generalize ((A &&& own_mask 6) ||| (r &&& (own_mask 6 ^^^ -1))) = w at hw ⊢
  obtain ⟨b0, e0, l0⟩ := own_nat d0 h0
  obtain ⟨b1, e1, l1⟩ := own_nat d1 h1
  obtain ⟨b2, e2, l2⟩ := own_nat d2 h2
  obtain ⟨b3, e3, l3⟩ := own_nat d3 h3
  obtain ⟨b4, e4, l4⟩ := own_nat d4 h4
  obtain ⟨b5, e5, l5⟩ := own_nat d5 h5
  obtain ⟨b6, e6, l6⟩ := own_nat d6 h6
  obtain ⟨b7, e7, l7⟩ := own_nat d7 h7
  rw [e0, e1, e2, e3, e4, e5, e6, e7] at hA
  have hA2 := own_sp6 A.toInt b0 b1 b2 b3 b4 b5 b6 b7 hA
  have k1 := c_lsub w 3472328296227680304
  have k2 := c_lshl (w - 3472328296227680304) (((8 : Int32) - 6) <<< ((3 : Int32) &&& 31)) 16 (by decide)
  have k3 := rng64 (own_s0 w 6)
  change ((own_s0 w 6).toInt - _) % _ = 0 at k2
  rw [show ((2 ^ 16 : Nat) : Int) = 65536 from by decide] at k2
  rw [show (3472328296227680304 : Int64).toInt = 3472328296227680304 from by decide] at k1
  have hs := own_g6 A.toInt w.toInt 0 (w - 3472328296227680304).toInt (own_s0 w 6).toInt _ _ hA2 (Int.natCast_nonneg _) (Int.ofNat_lt.mpr (own_top6 b0 b1 b2 b3 b4 b5 l0 l1 l2 l3 l4 l5)) hw k1 k2 k3
  rw [own_sh6] at hs
  have g := own_swar (own_s0 w 6) 0 0 b0 b1 b2 b3 b4 b5 (by decide) (by decide) (Nat.lt_succ_of_le l0) (Nat.lt_succ_of_le l1) (Nat.lt_succ_of_le l2) (Nat.lt_succ_of_le l3) (Nat.lt_succ_of_le l4) (Nat.lt_succ_of_le l5) hs
  rw [own_eq6] at g
  clear hs hw k1 k2 k3 hA hA2
  apply Int64.toInt_inj.mp
  unfold own_num
  rw [g]
  have f0 : d0.toInt64.toInt = (b0 : Int) := (c_i2l d0).trans e0
  have f1 : (own_st 6 1 d0.toInt64 d1).toInt = ((10 * (b0) + b1 : Nat) : Int) := by rw [show own_st 6 1 d0.toInt64 d1 = d0.toInt64 * 10 + d1.toInt64 from if_pos (by decide)]; exact own_hornN _ _ _ _ f0 (by omega) e1 l1
  have f2 : (own_st 6 2 (own_st 6 1 d0.toInt64 d1) d2).toInt = ((10 * (10 * (b0) + b1) + b2 : Nat) : Int) := by rw [show own_st 6 2 (own_st 6 1 d0.toInt64 d1) d2 = (own_st 6 1 d0.toInt64 d1) * 10 + d2.toInt64 from if_pos (by decide)]; exact own_hornN _ _ _ _ f1 (by omega) e2 l2
  have f3 : (own_st 6 3 (own_st 6 2 (own_st 6 1 d0.toInt64 d1) d2) d3).toInt = ((10 * (10 * (10 * (b0) + b1) + b2) + b3 : Nat) : Int) := by rw [show own_st 6 3 (own_st 6 2 (own_st 6 1 d0.toInt64 d1) d2) d3 = (own_st 6 2 (own_st 6 1 d0.toInt64 d1) d2) * 10 + d3.toInt64 from if_pos (by decide)]; exact own_hornN _ _ _ _ f2 (by omega) e3 l3
  have f4 : (own_st 6 4 (own_st 6 3 (own_st 6 2 (own_st 6 1 d0.toInt64 d1) d2) d3) d4).toInt = ((10 * (10 * (10 * (10 * (b0) + b1) + b2) + b3) + b4 : Nat) : Int) := by rw [show own_st 6 4 (own_st 6 3 (own_st 6 2 (own_st 6 1 d0.toInt64 d1) d2) d3) d4 = (own_st 6 3 (own_st 6 2 (own_st 6 1 d0.toInt64 d1) d2) d3) * 10 + d4.toInt64 from if_pos (by decide)]; exact own_hornN _ _ _ _ f3 (by omega) e4 l4
  have f5 : (own_st 6 5 (own_st 6 4 (own_st 6 3 (own_st 6 2 (own_st 6 1 d0.toInt64 d1) d2) d3) d4) d5).toInt = ((10 * (10 * (10 * (10 * (10 * (b0) + b1) + b2) + b3) + b4) + b5 : Nat) : Int) := by rw [show own_st 6 5 (own_st 6 4 (own_st 6 3 (own_st 6 2 (own_st 6 1 d0.toInt64 d1) d2) d3) d4) d5 = (own_st 6 4 (own_st 6 3 (own_st 6 2 (own_st 6 1 d0.toInt64 d1) d2) d3) d4) * 10 + d5.toInt64 from if_pos (by decide)]; exact own_hornN _ _ _ _ f4 (by omega) e5 l5
  have f6 : (own_st 6 6 (own_st 6 5 (own_st 6 4 (own_st 6 3 (own_st 6 2 (own_st 6 1 d0.toInt64 d1) d2) d3) d4) d5) d6).toInt = ((10 * (10 * (10 * (10 * (10 * (b0) + b1) + b2) + b3) + b4) + b5 : Nat) : Int) := by rw [show own_st 6 6 (own_st 6 5 (own_st 6 4 (own_st 6 3 (own_st 6 2 (own_st 6 1 d0.toInt64 d1) d2) d3) d4) d5) d6 = (own_st 6 5 (own_st 6 4 (own_st 6 3 (own_st 6 2 (own_st 6 1 d0.toInt64 d1) d2) d3) d4) d5) from if_neg (by decide)]; exact f5
  have f7 : (own_st 6 7 (own_st 6 6 (own_st 6 5 (own_st 6 4 (own_st 6 3 (own_st 6 2 (own_st 6 1 d0.toInt64 d1) d2) d3) d4) d5) d6) d7).toInt = ((10 * (10 * (10 * (10 * (10 * (b0) + b1) + b2) + b3) + b4) + b5 : Nat) : Int) := by rw [show own_st 6 7 (own_st 6 6 (own_st 6 5 (own_st 6 4 (own_st 6 3 (own_st 6 2 (own_st 6 1 d0.toInt64 d1) d2) d3) d4) d5) d6) d7 = (own_st 6 6 (own_st 6 5 (own_st 6 4 (own_st 6 3 (own_st 6 2 (own_st 6 1 d0.toInt64 d1) d2) d3) d4) d5) d6) from if_neg (by decide)]; exact f6
  exact f7.symm
set_option maxHeartbeats 4000000 in
theorem own_g7 (A w z : Int) (y s D H : Int) (hA : A = D + 13563782407139376 + 72057594037927936 * H) (b0 : 0 ≤ D) (b1 : D < 2814749767106560) (hw : w % 72057594037927936 = A % 72057594037927936) (k1 : (y - (w - 3472328296227680304)) % 18446744073709551616 = 0) (k2 : (s - y * 256) % 18446744073709551616 = 0) (k3 : -9223372036854775808 ≤ s ∧ s < 9223372036854775808) : s = 256 * D := by
  have e1 : y % 72057594037927936 = D := by omega
  obtain ⟨q, hq⟩ : ∃ q, y = 72057594037927936 * q + D := ⟨y / 72057594037927936, by omega⟩
  clear hA hw k1 e1
  subst hq
  omega
theorem own_top7 (b0 b1 b2 b3 b4 b5 b6 : Nat) (l0 : b0 ≤ 9) (l1 : b1 ≤ 9) (l2 : b2 ≤ 9) (l3 : b3 ≤ 9) (l4 : b4 ≤ 9) (l5 : b5 ≤ 9) (l6 : b6 ≤ 9) : b0 + 256 * (b1 + 256 * (b2 + 256 * (b3 + 256 * (b4 + 256 * (b5 + 256 * (b6)))))) < 2814749767106560 := by omega
theorem own_sp7 (A : Int) (b0 b1 b2 b3 b4 b5 b6 b7 : Nat) (hA : A = (48 + (b0 : Int)) + 256 * (48 + (b1 : Int)) + 65536 * (48 + (b2 : Int)) + 16777216 * (48 + (b3 : Int)) + 4294967296 * (48 + (b4 : Int)) + 1099511627776 * (48 + (b5 : Int)) + 281474976710656 * (48 + (b6 : Int)) + 72057594037927936 * (48 + (b7 : Int))) : A = ((b0 + 256 * (b1 + 256 * (b2 + 256 * (b3 + 256 * (b4 + 256 * (b5 + 256 * (b6)))))) : Nat) : Int) + 13563782407139376 + 72057594037927936 * (1 * (48 + (b7 : Int))) := by omega
theorem own_sh7 (b0 b1 b2 b3 b4 b5 b6 : Nat) : 256 * ((b0 + 256 * (b1 + 256 * (b2 + 256 * (b3 + 256 * (b4 + 256 * (b5 + 256 * (b6)))))) : Nat) : Int) = ((0 + 256 * (b0 + 256 * (b1 + 256 * (b2 + 256 * (b3 + 256 * (b4 + 256 * (b5 + 256 * (b6))))))) : Nat) : Int) := by omega
theorem own_eq7 (b0 b1 b2 b3 b4 b5 b6 : Nat) : ((10000000 * 0 + 1000000 * b0 + 100000 * b1 + 10000 * b2 + 1000 * b3 + 100 * b4 + 10 * b5 + b6 : Nat) : Int) = ((10 * (10 * (10 * (10 * (10 * (10 * (b0) + b1) + b2) + b3) + b4) + b5) + b6 : Nat) : Int) := by omega
set_option maxHeartbeats 4000000 in
theorem own_c7 (d0 d1 d2 d3 d4 d5 d6 d7 : Int32) (A r : Int64) (h0 : 0 ≤ d0.toInt ∧ d0.toInt ≤ 9) (h1 : 0 ≤ d1.toInt ∧ d1.toInt ≤ 9) (h2 : 0 ≤ d2.toInt ∧ d2.toInt ≤ 9) (h3 : 0 ≤ d3.toInt ∧ d3.toInt ≤ 9) (h4 : 0 ≤ d4.toInt ∧ d4.toInt ≤ 9) (h5 : 0 ≤ d5.toInt ∧ d5.toInt ≤ 9) (h6 : 0 ≤ d6.toInt ∧ d6.toInt ≤ 9) (h7 : 0 ≤ d7.toInt ∧ d7.toInt ≤ 9) (hA : A.toInt = (48 + d0.toInt) + 256 * (48 + d1.toInt) + 65536 * (48 + d2.toInt) + 16777216 * (48 + d3.toInt) + 4294967296 * (48 + d4.toInt) + 1099511627776 * (48 + d5.toInt) + 281474976710656 * (48 + d6.toInt) + 72057594037927936 * (48 + d7.toInt)) :
    own_num ((A &&& own_mask 7) ||| (r &&& (own_mask 7 ^^^ -1))) 7 = (own_st 7 7 (own_st 7 6 (own_st 7 5 (own_st 7 4 (own_st 7 3 (own_st 7 2 (own_st 7 1 d0.toInt64 d1) d2) d3) d4) d5) d6) d7) := by
  have hw := own_low A r (own_mask 7) 56 (by decide) (by decide)
  rw [show ((2 ^ 56 : Nat) : Int) = 72057594037927936 from by decide] at hw
  generalize ((A &&& own_mask 7) ||| (r &&& (own_mask 7 ^^^ -1))) = w at hw ⊢
  obtain ⟨b0, e0, l0⟩ := own_nat d0 h0
  obtain ⟨b1, e1, l1⟩ := own_nat d1 h1
  obtain ⟨b2, e2, l2⟩ := own_nat d2 h2
  obtain ⟨b3, e3, l3⟩ := own_nat d3 h3
  obtain ⟨b4, e4, l4⟩ := own_nat d4 h4
  obtain ⟨b5, e5, l5⟩ := own_nat d5 h5
  obtain ⟨b6, e6, l6⟩ := own_nat d6 h6
  obtain ⟨b7, e7, l7⟩ := own_nat d7 h7
  rw [e0, e1, e2, e3, e4, e5, e6, e7] at hA
  have hA2 := own_sp7 A.toInt b0 b1 b2 b3 b4 b5 b6 b7 hA
  have k1 := c_lsub w 3472328296227680304
  have k2 := c_lshl (w - 3472328296227680304) (((8 : Int32) - 7) <<< ((3 : Int32) &&& 31)) 8 (by decide)
  have k3 := rng64 (own_s0 w 7)
  change ((own_s0 w 7).toInt - _) % _ = 0 at k2
  rw [show ((2 ^ 8 : Nat) : Int) = 256 from by decide] at k2
  rw [show (3472328296227680304 : Int64).toInt = 3472328296227680304 from by decide] at k1
  have hs := own_g7 A.toInt w.toInt 0 (w - 3472328296227680304).toInt (own_s0 w 7).toInt _ _ hA2 (Int.natCast_nonneg _) (Int.ofNat_lt.mpr (own_top7 b0 b1 b2 b3 b4 b5 b6 l0 l1 l2 l3 l4 l5 l6)) hw k1 k2 k3
  rw [own_sh7] at hs
  have g := own_swar (own_s0 w 7) 0 b0 b1 b2 b3 b4 b5 b6 (by decide) (Nat.lt_succ_of_le l0) (Nat.lt_succ_of_le l1) (Nat.lt_succ_of_le l2) (Nat.lt_succ_of_le l3) (Nat.lt_succ_of_le l4) (Nat.lt_succ_of_le l5) (Nat.lt_succ_of_le l6) hs
  rw [own_eq7] at g
  clear hs hw k1 k2 k3 hA hA2
  apply Int64.toInt_inj.mp
  unfold own_num
  rw [g]
  have f0 : d0.toInt64.toInt = (b0 : Int) := (c_i2l d0).trans e0
  have f1 : (own_st 7 1 d0.toInt64 d1).toInt = ((10 * (b0) + b1 : Nat) : Int) := by rw [show own_st 7 1 d0.toInt64 d1 = d0.toInt64 * 10 + d1.toInt64 from if_pos (by decide)]; exact own_hornN _ _ _ _ f0 (by omega) e1 l1
  have f2 : (own_st 7 2 (own_st 7 1 d0.toInt64 d1) d2).toInt = ((10 * (10 * (b0) + b1) + b2 : Nat) : Int) := by rw [show own_st 7 2 (own_st 7 1 d0.toInt64 d1) d2 = (own_st 7 1 d0.toInt64 d1) * 10 + d2.toInt64 from if_pos (by decide)]; exact own_hornN _ _ _ _ f1 (by omega) e2 l2
  have f3 : (own_st 7 3 (own_st 7 2 (own_st 7 1 d0.toInt64 d1) d2) d3).toInt = ((10 * (10 * (10 * (b0) + b1) + b2) + b3 : Nat) : Int) := by rw [show own_st 7 3 (own_st 7 2 (own_st 7 1 d0.toInt64 d1) d2) d3 = (own_st 7 2 (own_st 7 1 d0.toInt64 d1) d2) * 10 + d3.toInt64 from if_pos (by decide)]; exact own_hornN _ _ _ _ f2 (by omega) e3 l3
  have f4 : (own_st 7 4 (own_st 7 3 (own_st 7 2 (own_st 7 1 d0.toInt64 d1) d2) d3) d4).toInt = ((10 * (10 * (10 * (10 * (b0) + b1) + b2) + b3) + b4 : Nat) : Int) := by rw [show own_st 7 4 (own_st 7 3 (own_st 7 2 (own_st 7 1 d0.toInt64 d1) d2) d3) d4 = (own_st 7 3 (own_st 7 2 (own_st 7 1 d0.toInt64 d1) d2) d3) * 10 + d4.toInt64 from if_pos (by decide)]; exact own_hornN _ _ _ _ f3 (by omega) e4 l4
  have f5 : (own_st 7 5 (own_st 7 4 (own_st 7 3 (own_st 7 2 (own_st 7 1 d0.toInt64 d1) d2) d3) d4) d5).toInt = ((10 * (10 * (10 * (10 * (10 * (b0) + b1) + b2) + b3) + b4) + b5 : Nat) : Int) := by rw [show own_st 7 5 (own_st 7 4 (own_st 7 3 (own_st 7 2 (own_st 7 1 d0.toInt64 d1) d2) d3) d4) d5 = (own_st 7 4 (own_st 7 3 (own_st 7 2 (own_st 7 1 d0.toInt64 d1) d2) d3) d4) * 10 + d5.toInt64 from if_pos (by decide)]; exact own_hornN _ _ _ _ f4 (by omega) e5 l5
  have f6 : (own_st 7 6 (own_st 7 5 (own_st 7 4 (own_st 7 3 (own_st 7 2 (own_st 7 1 d0.toInt64 d1) d2) d3) d4) d5) d6).toInt = ((10 * (10 * (10 * (10 * (10 * (10 * (b0) + b1) + b2) + b3) + b4) + b5) + b6 : Nat) : Int) := by rw [show own_st 7 6 (own_st 7 5 (own_st 7 4 (own_st 7 3 (own_st 7 2 (own_st 7 1 d0.toInt64 d1) d2) d3) d4) d5) d6 = (own_st 7 5 (own_st 7 4 (own_st 7 3 (own_st 7 2 (own_st 7 1 d0.toInt64 d1) d2) d3) d4) d5) * 10 + d6.toInt64 from if_pos (by decide)]; exact own_hornN _ _ _ _ f5 (by omega) e6 l6
  have f7 : (own_st 7 7 (own_st 7 6 (own_st 7 5 (own_st 7 4 (own_st 7 3 (own_st 7 2 (own_st 7 1 d0.toInt64 d1) d2) d3) d4) d5) d6) d7).toInt = ((10 * (10 * (10 * (10 * (10 * (10 * (b0) + b1) + b2) + b3) + b4) + b5) + b6 : Nat) : Int) := by rw [show own_st 7 7 (own_st 7 6 (own_st 7 5 (own_st 7 4 (own_st 7 3 (own_st 7 2 (own_st 7 1 d0.toInt64 d1) d2) d3) d4) d5) d6) d7 = (own_st 7 6 (own_st 7 5 (own_st 7 4 (own_st 7 3 (own_st 7 2 (own_st 7 1 d0.toInt64 d1) d2) d3) d4) d5) d6) from if_neg (by decide)]; exact f6
  exact f7.symm
set_option maxHeartbeats 4000000 in
theorem own_g8 (A w z : Int) (y s D H : Int) (hA : A = D + 3472328296227680304 + 18446744073709551616 * H) (b0 : 0 ≤ D) (b1 : D < 720575940379279360) (hw : w % 18446744073709551616 = A % 18446744073709551616) (k1 : (y - (w - 3472328296227680304)) % 18446744073709551616 = 0) (k2 : (s - y * 1) % 18446744073709551616 = 0) (k3 : -9223372036854775808 ≤ s ∧ s < 9223372036854775808) : s = 1 * D := by
  have e1 : y % 18446744073709551616 = D := by omega
  obtain ⟨q, hq⟩ : ∃ q, y = 18446744073709551616 * q + D := ⟨y / 18446744073709551616, by omega⟩
  clear hA hw k1 e1
  subst hq
  omega
theorem own_top8 (b0 b1 b2 b3 b4 b5 b6 b7 : Nat) (l0 : b0 ≤ 9) (l1 : b1 ≤ 9) (l2 : b2 ≤ 9) (l3 : b3 ≤ 9) (l4 : b4 ≤ 9) (l5 : b5 ≤ 9) (l6 : b6 ≤ 9) (l7 : b7 ≤ 9) : b0 + 256 * (b1 + 256 * (b2 + 256 * (b3 + 256 * (b4 + 256 * (b5 + 256 * (b6 + 256 * (b7))))))) < 720575940379279360 := by omega
theorem own_sp8 (A : Int) (b0 b1 b2 b3 b4 b5 b6 b7 : Nat) (hA : A = (48 + (b0 : Int)) + 256 * (48 + (b1 : Int)) + 65536 * (48 + (b2 : Int)) + 16777216 * (48 + (b3 : Int)) + 4294967296 * (48 + (b4 : Int)) + 1099511627776 * (48 + (b5 : Int)) + 281474976710656 * (48 + (b6 : Int)) + 72057594037927936 * (48 + (b7 : Int))) : A = ((b0 + 256 * (b1 + 256 * (b2 + 256 * (b3 + 256 * (b4 + 256 * (b5 + 256 * (b6 + 256 * (b7))))))) : Nat) : Int) + 3472328296227680304 + 18446744073709551616 * (0) := by omega
theorem own_sh8 (b0 b1 b2 b3 b4 b5 b6 b7 : Nat) : 1 * ((b0 + 256 * (b1 + 256 * (b2 + 256 * (b3 + 256 * (b4 + 256 * (b5 + 256 * (b6 + 256 * (b7))))))) : Nat) : Int) = ((b0 + 256 * (b1 + 256 * (b2 + 256 * (b3 + 256 * (b4 + 256 * (b5 + 256 * (b6 + 256 * (b7))))))) : Nat) : Int) := by omega
theorem own_eq8 (b0 b1 b2 b3 b4 b5 b6 b7 : Nat) : ((10000000 * b0 + 1000000 * b1 + 100000 * b2 + 10000 * b3 + 1000 * b4 + 100 * b5 + 10 * b6 + b7 : Nat) : Int) = ((10 * (10 * (10 * (10 * (10 * (10 * (10 * (b0) + b1) + b2) + b3) + b4) + b5) + b6) + b7 : Nat) : Int) := by omega
set_option maxHeartbeats 4000000 in
theorem own_c8 (d0 d1 d2 d3 d4 d5 d6 d7 : Int32) (A r : Int64) (h0 : 0 ≤ d0.toInt ∧ d0.toInt ≤ 9) (h1 : 0 ≤ d1.toInt ∧ d1.toInt ≤ 9) (h2 : 0 ≤ d2.toInt ∧ d2.toInt ≤ 9) (h3 : 0 ≤ d3.toInt ∧ d3.toInt ≤ 9) (h4 : 0 ≤ d4.toInt ∧ d4.toInt ≤ 9) (h5 : 0 ≤ d5.toInt ∧ d5.toInt ≤ 9) (h6 : 0 ≤ d6.toInt ∧ d6.toInt ≤ 9) (h7 : 0 ≤ d7.toInt ∧ d7.toInt ≤ 9) (hA : A.toInt = (48 + d0.toInt) + 256 * (48 + d1.toInt) + 65536 * (48 + d2.toInt) + 16777216 * (48 + d3.toInt) + 4294967296 * (48 + d4.toInt) + 1099511627776 * (48 + d5.toInt) + 281474976710656 * (48 + d6.toInt) + 72057594037927936 * (48 + d7.toInt)) :
    own_num ((A &&& own_mask 8) ||| (r &&& (own_mask 8 ^^^ -1))) 8 = (own_st 8 7 (own_st 8 6 (own_st 8 5 (own_st 8 4 (own_st 8 3 (own_st 8 2 (own_st 8 1 d0.toInt64 d1) d2) d3) d4) d5) d6) d7) := by
  rw [show own_mask 8 = -1 from by decide, own_mix8]
  obtain ⟨w, hwA⟩ : ∃ w, w = A := ⟨_, rfl⟩
  rw [← hwA]
  have hw : w.toInt % 18446744073709551616 = A.toInt % 18446744073709551616 := by rw [hwA]
  obtain ⟨b0, e0, l0⟩ := own_nat d0 h0
  obtain ⟨b1, e1, l1⟩ := own_nat d1 h1
  obtain ⟨b2, e2, l2⟩ := own_nat d2 h2
  obtain ⟨b3, e3, l3⟩ := own_nat d3 h3
  obtain ⟨b4, e4, l4⟩ := own_nat d4 h4
  obtain ⟨b5, e5, l5⟩ := own_nat d5 h5
  obtain ⟨b6, e6, l6⟩ := own_nat d6 h6
  obtain ⟨b7, e7, l7⟩ := own_nat d7 h7
  rw [e0, e1, e2, e3, e4, e5, e6, e7] at hA
  have hA2 := own_sp8 A.toInt b0 b1 b2 b3 b4 b5 b6 b7 hA
  have k1 := c_lsub w 3472328296227680304
  have k2 := c_lshl (w - 3472328296227680304) (((8 : Int32) - 8) <<< ((3 : Int32) &&& 31)) 0 (by decide)
  have k3 := rng64 (own_s0 w 8)
  change ((own_s0 w 8).toInt - _) % _ = 0 at k2
  rw [show ((2 ^ 0 : Nat) : Int) = 1 from by decide] at k2
  rw [show (3472328296227680304 : Int64).toInt = 3472328296227680304 from by decide] at k1
  have hs := own_g8 A.toInt w.toInt 0 (w - 3472328296227680304).toInt (own_s0 w 8).toInt _ _ hA2 (Int.natCast_nonneg _) (Int.ofNat_lt.mpr (own_top8 b0 b1 b2 b3 b4 b5 b6 b7 l0 l1 l2 l3 l4 l5 l6 l7)) hw k1 k2 k3
  rw [own_sh8] at hs
  have g := own_swar (own_s0 w 8) b0 b1 b2 b3 b4 b5 b6 b7 (Nat.lt_succ_of_le l0) (Nat.lt_succ_of_le l1) (Nat.lt_succ_of_le l2) (Nat.lt_succ_of_le l3) (Nat.lt_succ_of_le l4) (Nat.lt_succ_of_le l5) (Nat.lt_succ_of_le l6) (Nat.lt_succ_of_le l7) hs
  rw [own_eq8] at g
  clear hs hw k1 k2 k3 hA hA2
  apply Int64.toInt_inj.mp
  unfold own_num
  rw [g]
  have f0 : d0.toInt64.toInt = (b0 : Int) := (c_i2l d0).trans e0
  have f1 : (own_st 8 1 d0.toInt64 d1).toInt = ((10 * (b0) + b1 : Nat) : Int) := by rw [show own_st 8 1 d0.toInt64 d1 = d0.toInt64 * 10 + d1.toInt64 from if_pos (by decide)]; exact own_hornN _ _ _ _ f0 (by omega) e1 l1
  have f2 : (own_st 8 2 (own_st 8 1 d0.toInt64 d1) d2).toInt = ((10 * (10 * (b0) + b1) + b2 : Nat) : Int) := by rw [show own_st 8 2 (own_st 8 1 d0.toInt64 d1) d2 = (own_st 8 1 d0.toInt64 d1) * 10 + d2.toInt64 from if_pos (by decide)]; exact own_hornN _ _ _ _ f1 (by omega) e2 l2
  have f3 : (own_st 8 3 (own_st 8 2 (own_st 8 1 d0.toInt64 d1) d2) d3).toInt = ((10 * (10 * (10 * (b0) + b1) + b2) + b3 : Nat) : Int) := by rw [show own_st 8 3 (own_st 8 2 (own_st 8 1 d0.toInt64 d1) d2) d3 = (own_st 8 2 (own_st 8 1 d0.toInt64 d1) d2) * 10 + d3.toInt64 from if_pos (by decide)]; exact own_hornN _ _ _ _ f2 (by omega) e3 l3
  have f4 : (own_st 8 4 (own_st 8 3 (own_st 8 2 (own_st 8 1 d0.toInt64 d1) d2) d3) d4).toInt = ((10 * (10 * (10 * (10 * (b0) + b1) + b2) + b3) + b4 : Nat) : Int) := by rw [show own_st 8 4 (own_st 8 3 (own_st 8 2 (own_st 8 1 d0.toInt64 d1) d2) d3) d4 = (own_st 8 3 (own_st 8 2 (own_st 8 1 d0.toInt64 d1) d2) d3) * 10 + d4.toInt64 from if_pos (by decide)]; exact own_hornN _ _ _ _ f3 (by omega) e4 l4
  have f5 : (own_st 8 5 (own_st 8 4 (own_st 8 3 (own_st 8 2 (own_st 8 1 d0.toInt64 d1) d2) d3) d4) d5).toInt = ((10 * (10 * (10 * (10 * (10 * (b0) + b1) + b2) + b3) + b4) + b5 : Nat) : Int) := by rw [show own_st 8 5 (own_st 8 4 (own_st 8 3 (own_st 8 2 (own_st 8 1 d0.toInt64 d1) d2) d3) d4) d5 = (own_st 8 4 (own_st 8 3 (own_st 8 2 (own_st 8 1 d0.toInt64 d1) d2) d3) d4) * 10 + d5.toInt64 from if_pos (by decide)]; exact own_hornN _ _ _ _ f4 (by omega) e5 l5
  have f6 : (own_st 8 6 (own_st 8 5 (own_st 8 4 (own_st 8 3 (own_st 8 2 (own_st 8 1 d0.toInt64 d1) d2) d3) d4) d5) d6).toInt = ((10 * (10 * (10 * (10 * (10 * (10 * (b0) + b1) + b2) + b3) + b4) + b5) + b6 : Nat) : Int) := by rw [show own_st 8 6 (own_st 8 5 (own_st 8 4 (own_st 8 3 (own_st 8 2 (own_st 8 1 d0.toInt64 d1) d2) d3) d4) d5) d6 = (own_st 8 5 (own_st 8 4 (own_st 8 3 (own_st 8 2 (own_st 8 1 d0.toInt64 d1) d2) d3) d4) d5) * 10 + d6.toInt64 from if_pos (by decide)]; exact own_hornN _ _ _ _ f5 (by omega) e6 l6
  have f7 : (own_st 8 7 (own_st 8 6 (own_st 8 5 (own_st 8 4 (own_st 8 3 (own_st 8 2 (own_st 8 1 d0.toInt64 d1) d2) d3) d4) d5) d6) d7).toInt = ((10 * (10 * (10 * (10 * (10 * (10 * (10 * (b0) + b1) + b2) + b3) + b4) + b5) + b6) + b7 : Nat) : Int) := by rw [show own_st 8 7 (own_st 8 6 (own_st 8 5 (own_st 8 4 (own_st 8 3 (own_st 8 2 (own_st 8 1 d0.toInt64 d1) d2) d3) d4) d5) d6) d7 = (own_st 8 6 (own_st 8 5 (own_st 8 4 (own_st 8 3 (own_st 8 2 (own_st 8 1 d0.toInt64 d1) d2) d3) d4) d5) d6) * 10 + d7.toInt64 from if_pos (by decide)]; exact own_hornN _ _ _ _ f6 (by omega) e7 l7
  exact f7.symm
theorem own_main (n : Int32) (d0 d1 d2 d3 d4 d5 d6 d7 : Int32) (r : Int64) (hn : n = 1 ∨ n = 2 ∨ n = 3 ∨ n = 4 ∨ n = 5 ∨ n = 6 ∨ n = 7 ∨ n = 8) (h0 : 0 ≤ d0.toInt ∧ d0.toInt ≤ 9) (h1 : 0 ≤ d1.toInt ∧ d1.toInt ≤ 9) (h2 : 0 ≤ d2.toInt ∧ d2.toInt ≤ 9) (h3 : 0 ≤ d3.toInt ∧ d3.toInt ≤ 9) (h4 : 0 ≤ d4.toInt ∧ d4.toInt ≤ 9) (h5 : 0 ≤ d5.toInt ∧ d5.toInt ≤ 9) (h6 : 0 ≤ d6.toInt ∧ d6.toInt ≤ 9) (h7 : 0 ≤ d7.toInt ∧ d7.toInt ≤ 9) :
    own_num (((((((((own_at d0 0 ||| own_at d1 1) ||| own_at d2 2) ||| own_at d3 3) ||| own_at d4 4) ||| own_at d5 5) ||| own_at d6 6) ||| own_at d7 7) &&& own_mask n) ||| (r &&& (own_mask n ^^^ -1))) n = (own_st n 7 (own_st n 6 (own_st n 5 (own_st n 4 (own_st n 3 (own_st n 2 (own_st n 1 d0.toInt64 d1) d2) d3) d4) d5) d6) d7) := by
  have hA := own_dw d0 d1 d2 d3 d4 d5 d6 d7 h0 h1 h2 h3 h4 h5 h6 h7
  rcases hn with rfl | rfl | rfl | rfl | rfl | rfl | rfl | rfl
  · exact own_c1 d0 d1 d2 d3 d4 d5 d6 d7 _ r h0 h1 h2 h3 h4 h5 h6 h7 hA
  · exact own_c2 d0 d1 d2 d3 d4 d5 d6 d7 _ r h0 h1 h2 h3 h4 h5 h6 h7 hA
  · exact own_c3 d0 d1 d2 d3 d4 d5 d6 d7 _ r h0 h1 h2 h3 h4 h5 h6 h7 hA
  · exact own_c4 d0 d1 d2 d3 d4 d5 d6 d7 _ r h0 h1 h2 h3 h4 h5 h6 h7 hA
  · exact own_c5 d0 d1 d2 d3 d4 d5 d6 d7 _ r h0 h1 h2 h3 h4 h5 h6 h7 hA
  · exact own_c6 d0 d1 d2 d3 d4 d5 d6 d7 _ r h0 h1 h2 h3 h4 h5 h6 h7 hA
  · exact own_c7 d0 d1 d2 d3 d4 d5 d6 d7 _ r h0 h1 h2 h3 h4 h5 h6 h7 hA
  · exact own_c8 d0 d1 d2 d3 d4 d5 d6 d7 _ r h0 h1 h2 h3 h4 h5 h6 h7 hA
theorem d1_0 : decode method_3_code 0 = .ok (.lload_n 0, 1) := by decide +kernel
theorem d1_1 : decode method_3_code 1 = .ok (.iload_n 2, 1) := by decide +kernel
theorem d1_2 : decode method_3_code 2 = .ok (.iconst 2, 1) := by decide +kernel
theorem d1_3 : decode method_3_code 3 = .ok (.ishl, 1) := by decide +kernel
theorem d1_4 : decode method_3_code 4 = .ok (.lushr, 1) := by decide +kernel
theorem d1_5 : decode method_3_code 5 = .ok (.ldc2_w 27, 3) := by decide +kernel
theorem d1_8 : decode method_3_code 8 = .ok (.land, 1) := by decide +kernel
theorem d1_9 : decode method_3_code 9 = .ok (.l2i, 1) := by decide +kernel
theorem d1_10 : decode method_3_code 10 = .ok (.bipush 10, 2) := by decide +kernel
theorem d1_12 : decode method_3_code 12 = .ok (.irem, 1) := by decide +kernel
theorem d1_13 : decode method_3_code 13 = .ok (.ireturn, 1) := by decide +kernel
theorem pf_org_orderloom_fix_ByteWordsNumberPinLaw_digit__JI_I : plainFor (⟨"org/orderloom/fix/ByteWordsNumberPinLaw", "digit", "(JI)I"⟩ : MethodName) = true := by first | exact plainFor_of_name (by first | (simp [plainName, overriddenIn]; done) | decide +kernel) | exact Jvm.Free.JP.mathPlain rfl (by decide +kernel) | decide +kernel
theorem ef_rm1 (m : MethodId) (q0 : Int64) (q1 : Int32) : entryFrame m #[(.long q0), (.int q1)] 3 = mkF m 0 #[.val (.long q0), .second, iv q1] [] := by first | (simp [entryFrame, mkF, argsToLocals, Value.category]; done) | rfl
set_option maxRecDepth 65536 in
set_option maxHeartbeats 40000000 in
theorem rm1 (l : Launch) (Z : State) (a0 : Array Value) (hw : ∀ d ∈ tables_1, d.before a0 Z = true) (ws : List Jvm.Cond) (x0 : Int64) (x1 : Int32) (h0 : Heap) :
    OwnC l Z (⟨"org/orderloom/fix/ByteWordsNumberPinLaw", "digit", "(JI)I"⟩ : MethodName) method_3_code 3 (some .int) ws ({ frames := 0, cells := 0, slots := 0, locals := 0 } : Room) #[(.long x0), (.int x1)] h0 (OwnPure (.int (own_dig x0 x1)) h0) := by
  refine own_entry pf_org_orderloom_fix_ByteWordsNumberPinLaw_digit__JI_I (fun m => ef_rm1 m x0 x1) ?_
  intro p e s m below meth c T0 X0 hC e0
  obtain ⟨hx, hby, hml, hown, hnm, hret, hlk, hZ⟩ := hC
  refine own_go T0 m 1 #[.val (.long x0), .second, iv x1] [(.long x0)] (fun t k => XS.lloadN X0.here hx rfl (hb hby d1_0) rfl k) ?_
  refine own_go T0 m 2 #[.val (.long x0), .second, iv x1] [(.int x1), (.long x0)] (fun t k => XS.iloadN X0.here hx rfl (hb hby d1_1) rfl k) ?_
  refine own_go T0 m 3 #[.val (.long x0), .second, iv x1] [(.int 2), (.int x1), (.long x0)] (fun t k => XS.iconst X0.here hx rfl (hb hby d1_2) k) ?_
  refine own_go T0 m 4 #[.val (.long x0), .second, iv x1] [(.int (x1 <<< ((2 : Int32) &&& 31))), (.long x0)] (fun t k => XS.ishl X0.here hx rfl (hb hby d1_3) rfl k) ?_
  refine own_go T0 m 5 #[.val (.long x0), .second, iv x1] [(.long ((x0.toUInt64 >>> ((x1 <<< ((2 : Int32) &&& 31)) &&& 0x3f).toInt64.toUInt64).toInt64))] (fun t k => XS.lushr X0.here hx rfl (hb hby d1_4) rfl k) ?_
  refine own_go T0 m 8 #[.val (.long x0), .second, iv x1] [(.long 15), (.long ((x0.toUInt64 >>> ((x1 <<< ((2 : Int32) &&& 31)) &&& 0x3f).toInt64.toUInt64).toInt64))] (X0.ldc2Long hx hown (mvT hZ (own_w hw 4 rfl)) (g := (mkF m 5 #[.val (.long x0), .second, iv x1] [(.long ((x0.toUInt64 >>> ((x1 <<< ((2 : Int32) &&& 31)) &&& 0x3f).toInt64.toUInt64).toInt64))])) rfl (hb hby d1_5)) ?_
  refine own_go T0 m 9 #[.val (.long x0), .second, iv x1] [(.long (((x0.toUInt64 >>> ((x1 <<< ((2 : Int32) &&& 31)) &&& 0x3f).toInt64.toUInt64).toInt64) &&& (15 : Int64)))] (fun t k => XS.land X0.here hx rfl (hb hby d1_8) rfl k) ?_
  refine own_go T0 m 10 #[.val (.long x0), .second, iv x1] [(.int (((x0.toUInt64 >>> ((x1 <<< ((2 : Int32) &&& 31)) &&& 0x3f).toInt64.toUInt64).toInt64) &&& (15 : Int64)).toInt32)] (fun t k => XS.l2i X0.here hx rfl (hb hby d1_9) rfl k) ?_
  refine own_go T0 m 12 #[.val (.long x0), .second, iv x1] [(.int 10), (.int (((x0.toUInt64 >>> ((x1 <<< ((2 : Int32) &&& 31)) &&& 0x3f).toInt64.toUInt64).toInt64) &&& (15 : Int64)).toInt32)] (fun t k => XS.bipush X0.here hx rfl (hb hby d1_10) k) ?_
  refine own_go T0 m 13 #[.val (.long x0), .second, iv x1] [(.int ((((x0.toUInt64 >>> ((x1 <<< ((2 : Int32) &&& 31)) &&& 0x3f).toInt64.toUInt64).toInt64) &&& (15 : Int64)).toInt32 % (10 : Int32)))] (fun t k => own_rem_ne X0 hx rfl (hb hby d1_12) rfl (by decide) k) ?_
  refine own_retI X0 hx hlk hret (hb hby d1_13) (by decide) (by decide) ?_
  exact ⟨rfl, e0, rfl⟩
theorem d2_0 : decode method_4_code 0 = .ok (.bipush 48, 2) := by decide +kernel
theorem d2_2 : decode method_4_code 2 = .ok (.iload_n 0, 1) := by decide +kernel
theorem d2_3 : decode method_4_code 3 = .ok (.iadd, 1) := by decide +kernel
theorem d2_4 : decode method_4_code 4 = .ok (.i2l, 1) := by decide +kernel
theorem d2_5 : decode method_4_code 5 = .ok (.iload_n 1, 1) := by decide +kernel
theorem d2_6 : decode method_4_code 6 = .ok (.iconst 3, 1) := by decide +kernel
theorem d2_7 : decode method_4_code 7 = .ok (.ishl, 1) := by decide +kernel
theorem d2_8 : decode method_4_code 8 = .ok (.lshl, 1) := by decide +kernel
theorem d2_9 : decode method_4_code 9 = .ok (.lreturn, 1) := by decide +kernel
theorem pf_org_orderloom_fix_ByteWordsNumberPinLaw_at__II_J : plainFor (⟨"org/orderloom/fix/ByteWordsNumberPinLaw", "at", "(II)J"⟩ : MethodName) = true := by first | exact plainFor_of_name (by first | (simp [plainName, overriddenIn]; done) | decide +kernel) | exact Jvm.Free.JP.mathPlain rfl (by decide +kernel) | decide +kernel
theorem ef_rm2 (m : MethodId) (q0 : Int32) (q1 : Int32) : entryFrame m #[(.int q0), (.int q1)] 2 = mkF m 0 #[iv q0, iv q1] [] := by first | (simp [entryFrame, mkF, argsToLocals, Value.category]; done) | rfl
set_option maxRecDepth 65536 in
set_option maxHeartbeats 40000000 in
theorem rm2 (l : Launch) (Z : State) (a0 : Array Value) (hw : ∀ d ∈ tables_1, d.before a0 Z = true) (ws : List Jvm.Cond) (x0 : Int32) (x1 : Int32) (h0 : Heap) :
    OwnC l Z (⟨"org/orderloom/fix/ByteWordsNumberPinLaw", "at", "(II)J"⟩ : MethodName) method_4_code 2 (some .long) ws ({ frames := 0, cells := 0, slots := 0, locals := 0 } : Room) #[(.int x0), (.int x1)] h0 (OwnPure (.long (own_at x0 x1)) h0) := by
  refine own_entry pf_org_orderloom_fix_ByteWordsNumberPinLaw_at__II_J (fun m => ef_rm2 m x0 x1) ?_
  intro p e s m below meth c T0 X0 hC e0
  obtain ⟨hx, hby, hml, hown, hnm, hret, hlk, hZ⟩ := hC
  refine own_go T0 m 2 #[iv x0, iv x1] [(.int 48)] (fun t k => XS.bipush X0.here hx rfl (hb hby d2_0) k) ?_
  refine own_go T0 m 3 #[iv x0, iv x1] [(.int x0), (.int 48)] (fun t k => XS.iloadN X0.here hx rfl (hb hby d2_2) rfl k) ?_
  refine own_go T0 m 4 #[iv x0, iv x1] [(.int ((48 : Int32) + x0))] (fun t k => XS.iadd X0.here hx rfl (hb hby d2_3) rfl k) ?_
  refine own_go T0 m 5 #[iv x0, iv x1] [(.long ((48 : Int32) + x0).toInt64)] (fun t k => XS.i2l X0.here hx rfl (hb hby d2_4) rfl k) ?_
  refine own_go T0 m 6 #[iv x0, iv x1] [(.int x1), (.long ((48 : Int32) + x0).toInt64)] (fun t k => XS.iloadN X0.here hx rfl (hb hby d2_5) rfl k) ?_
  refine own_go T0 m 7 #[iv x0, iv x1] [(.int 3), (.int x1), (.long ((48 : Int32) + x0).toInt64)] (fun t k => XS.iconst X0.here hx rfl (hb hby d2_6) k) ?_
  refine own_go T0 m 8 #[iv x0, iv x1] [(.int (x1 <<< ((3 : Int32) &&& 31))), (.long ((48 : Int32) + x0).toInt64)] (fun t k => XS.ishl X0.here hx rfl (hb hby d2_7) rfl k) ?_
  refine own_go T0 m 9 #[iv x0, iv x1] [(.long (((48 : Int32) + x0).toInt64 <<< ((x1 <<< ((3 : Int32) &&& 31)) &&& 0x3f).toInt64))] (fun t k => XS.lshl X0.here hx rfl (hb hby d2_8) rfl k) ?_
  refine own_retJ X0 hx hlk hret (hb hby d2_9) (by decide) (by decide) ?_
  exact ⟨rfl, e0, rfl⟩
theorem d3_0 : decode prog_43_method_10_code 0 = .ok (.lload_n 0, 1) := by decide +kernel
theorem d3_1 : decode prog_43_method_10_code 1 = .ok (.ldc2_w 35, 3) := by decide +kernel
theorem d3_4 : decode prog_43_method_10_code 4 = .ok (.lsub, 1) := by decide +kernel
theorem d3_5 : decode prog_43_method_10_code 5 = .ok (.bipush 8, 2) := by decide +kernel
theorem d3_7 : decode prog_43_method_10_code 7 = .ok (.iload_n 2, 1) := by decide +kernel
theorem d3_8 : decode prog_43_method_10_code 8 = .ok (.isub, 1) := by decide +kernel
theorem d3_9 : decode prog_43_method_10_code 9 = .ok (.iconst 3, 1) := by decide +kernel
theorem d3_10 : decode prog_43_method_10_code 10 = .ok (.ishl, 1) := by decide +kernel
theorem d3_11 : decode prog_43_method_10_code 11 = .ok (.lshl, 1) := by decide +kernel
theorem d3_12 : decode prog_43_method_10_code 12 = .ok (.lstore_n 3, 1) := by decide +kernel
theorem d3_13 : decode prog_43_method_10_code 13 = .ok (.lload_n 3, 1) := by decide +kernel
theorem d3_14 : decode prog_43_method_10_code 14 = .ok (.ldc2_w 48, 3) := by decide +kernel
theorem d3_17 : decode prog_43_method_10_code 17 = .ok (.lmul, 1) := by decide +kernel
theorem d3_18 : decode prog_43_method_10_code 18 = .ok (.lload_n 3, 1) := by decide +kernel
theorem d3_19 : decode prog_43_method_10_code 19 = .ok (.bipush 8, 2) := by decide +kernel
theorem d3_21 : decode prog_43_method_10_code 21 = .ok (.lushr, 1) := by decide +kernel
theorem d3_22 : decode prog_43_method_10_code 22 = .ok (.ladd, 1) := by decide +kernel
theorem d3_23 : decode prog_43_method_10_code 23 = .ok (.ldc2_w 50, 3) := by decide +kernel
theorem d3_26 : decode prog_43_method_10_code 26 = .ok (.land, 1) := by decide +kernel
theorem d3_27 : decode prog_43_method_10_code 27 = .ok (.lstore_n 3, 1) := by decide +kernel
theorem d3_28 : decode prog_43_method_10_code 28 = .ok (.lload_n 3, 1) := by decide +kernel
theorem d3_29 : decode prog_43_method_10_code 29 = .ok (.ldc2_w 52, 3) := by decide +kernel
theorem d3_32 : decode prog_43_method_10_code 32 = .ok (.lmul, 1) := by decide +kernel
theorem d3_33 : decode prog_43_method_10_code 33 = .ok (.lload_n 3, 1) := by decide +kernel
theorem d3_34 : decode prog_43_method_10_code 34 = .ok (.bipush 16, 2) := by decide +kernel
theorem d3_36 : decode prog_43_method_10_code 36 = .ok (.lushr, 1) := by decide +kernel
theorem d3_37 : decode prog_43_method_10_code 37 = .ok (.ladd, 1) := by decide +kernel
theorem d3_38 : decode prog_43_method_10_code 38 = .ok (.ldc2_w 54, 3) := by decide +kernel
theorem d3_41 : decode prog_43_method_10_code 41 = .ok (.land, 1) := by decide +kernel
theorem d3_42 : decode prog_43_method_10_code 42 = .ok (.lstore_n 3, 1) := by decide +kernel
theorem d3_43 : decode prog_43_method_10_code 43 = .ok (.lload_n 3, 1) := by decide +kernel
theorem d3_44 : decode prog_43_method_10_code 44 = .ok (.ldc2_w 56, 3) := by decide +kernel
theorem d3_47 : decode prog_43_method_10_code 47 = .ok (.lmul, 1) := by decide +kernel
theorem d3_48 : decode prog_43_method_10_code 48 = .ok (.lload_n 3, 1) := by decide +kernel
theorem d3_49 : decode prog_43_method_10_code 49 = .ok (.bipush 32, 2) := by decide +kernel
theorem d3_51 : decode prog_43_method_10_code 51 = .ok (.lushr, 1) := by decide +kernel
theorem d3_52 : decode prog_43_method_10_code 52 = .ok (.ladd, 1) := by decide +kernel
theorem d3_53 : decode prog_43_method_10_code 53 = .ok (.ldc2_w 58, 3) := by decide +kernel
theorem d3_56 : decode prog_43_method_10_code 56 = .ok (.land, 1) := by decide +kernel
theorem d3_57 : decode prog_43_method_10_code 57 = .ok (.lreturn, 1) := by decide +kernel
theorem pf_org_orderloom_fix_ByteWords_number__JI_J : plainFor (⟨"org/orderloom/fix/ByteWords", "number", "(JI)J"⟩ : MethodName) = true := by first | exact plainFor_of_name (by first | (simp [plainName, overriddenIn]; done) | decide +kernel) | exact Jvm.Free.JP.mathPlain rfl (by decide +kernel) | decide +kernel
theorem ef_rm3 (m : MethodId) (q0 : Int64) (q1 : Int32) : entryFrame m #[(.long q0), (.int q1)] 5 = mkF m 0 #[.val (.long q0), .second, iv q1, .unset, .unset] [] := by first | (simp [entryFrame, mkF, argsToLocals, Value.category]; done) | rfl
set_option maxRecDepth 65536 in
set_option maxHeartbeats 40000000 in
theorem rm3 (l : Launch) (Z : State) (a0 : Array Value) (hw : ∀ d ∈ tables_1, d.before a0 Z = true) (ws : List Jvm.Cond) (x0 : Int64) (x1 : Int32) (h0 : Heap) :
    OwnC l Z (⟨"org/orderloom/fix/ByteWords", "number", "(JI)J"⟩ : MethodName) prog_43_method_10_code 5 (some .long) ws ({ frames := 0, cells := 0, slots := 0, locals := 0 } : Room) #[(.long x0), (.int x1)] h0 (OwnPure (.long (own_num x0 x1)) h0) := by
  refine own_entry pf_org_orderloom_fix_ByteWords_number__JI_J (fun m => ef_rm3 m x0 x1) ?_
  intro p e s m below meth c T0 X0 hC e0
  obtain ⟨hx, hby, hml, hown, hnm, hret, hlk, hZ⟩ := hC
  refine own_go T0 m 1 #[.val (.long x0), .second, iv x1, .unset, .unset] [(.long x0)] (fun t k => XS.lloadN X0.here hx rfl (hb hby d3_0) rfl k) ?_
  refine own_go T0 m 4 #[.val (.long x0), .second, iv x1, .unset, .unset] [(.long 3472328296227680304), (.long x0)] (X0.ldc2Long hx hown (mvT hZ (own_w hw 13 rfl)) (g := (mkF m 1 #[.val (.long x0), .second, iv x1, .unset, .unset] [(.long x0)])) rfl (hb hby d3_1)) ?_
  refine own_go T0 m 5 #[.val (.long x0), .second, iv x1, .unset, .unset] [(.long (x0 - (3472328296227680304 : Int64)))] (fun t k => XS.lsub X0.here hx rfl (hb hby d3_4) rfl k) ?_
  refine own_go T0 m 7 #[.val (.long x0), .second, iv x1, .unset, .unset] [(.int 8), (.long (x0 - (3472328296227680304 : Int64)))] (fun t k => XS.bipush X0.here hx rfl (hb hby d3_5) k) ?_
  refine own_go T0 m 8 #[.val (.long x0), .second, iv x1, .unset, .unset] [(.int x1), (.int 8), (.long (x0 - (3472328296227680304 : Int64)))] (fun t k => XS.iloadN X0.here hx rfl (hb hby d3_7) rfl k) ?_
  refine own_go T0 m 9 #[.val (.long x0), .second, iv x1, .unset, .unset] [(.int ((8 : Int32) - x1)), (.long (x0 - (3472328296227680304 : Int64)))] (fun t k => XS.isub X0.here hx rfl (hb hby d3_8) rfl k) ?_
  refine own_go T0 m 10 #[.val (.long x0), .second, iv x1, .unset, .unset] [(.int 3), (.int ((8 : Int32) - x1)), (.long (x0 - (3472328296227680304 : Int64)))] (fun t k => XS.iconst X0.here hx rfl (hb hby d3_9) k) ?_
  refine own_go T0 m 11 #[.val (.long x0), .second, iv x1, .unset, .unset] [(.int (((8 : Int32) - x1) <<< ((3 : Int32) &&& 31))), (.long (x0 - (3472328296227680304 : Int64)))] (fun t k => XS.ishl X0.here hx rfl (hb hby d3_10) rfl k) ?_
  refine own_go T0 m 12 #[.val (.long x0), .second, iv x1, .unset, .unset] [(.long ((x0 - (3472328296227680304 : Int64)) <<< ((((8 : Int32) - x1) <<< ((3 : Int32) &&& 31)) &&& 0x3f).toInt64))] (fun t k => XS.lshl X0.here hx rfl (hb hby d3_11) rfl k) ?_
  refine own_go T0 m 13 #[.val (.long x0), .second, iv x1, .val (.long ((x0 - (3472328296227680304 : Int64)) <<< ((((8 : Int32) - x1) <<< ((3 : Int32) &&& 31)) &&& 0x3f).toInt64)), .second] [] (fun t k => XS.lstoreN X0.here hx rfl (hb hby d3_12) rfl rfl k) ?_
  refine own_go T0 m 14 #[.val (.long x0), .second, iv x1, .val (.long ((x0 - (3472328296227680304 : Int64)) <<< ((((8 : Int32) - x1) <<< ((3 : Int32) &&& 31)) &&& 0x3f).toInt64)), .second] [(.long ((x0 - (3472328296227680304 : Int64)) <<< ((((8 : Int32) - x1) <<< ((3 : Int32) &&& 31)) &&& 0x3f).toInt64))] (fun t k => XS.lloadN X0.here hx rfl (hb hby d3_13) rfl k) ?_
  refine own_go T0 m 17 #[.val (.long x0), .second, iv x1, .val (.long ((x0 - (3472328296227680304 : Int64)) <<< ((((8 : Int32) - x1) <<< ((3 : Int32) &&& 31)) &&& 0x3f).toInt64)), .second] [(.long 10), (.long ((x0 - (3472328296227680304 : Int64)) <<< ((((8 : Int32) - x1) <<< ((3 : Int32) &&& 31)) &&& 0x3f).toInt64))] (X0.ldc2Long hx hown (mvT hZ (own_w hw 14 rfl)) (g := (mkF m 14 #[.val (.long x0), .second, iv x1, .val (.long ((x0 - (3472328296227680304 : Int64)) <<< ((((8 : Int32) - x1) <<< ((3 : Int32) &&& 31)) &&& 0x3f).toInt64)), .second] [(.long ((x0 - (3472328296227680304 : Int64)) <<< ((((8 : Int32) - x1) <<< ((3 : Int32) &&& 31)) &&& 0x3f).toInt64))])) rfl (hb hby d3_14)) ?_
  refine own_go T0 m 18 #[.val (.long x0), .second, iv x1, .val (.long ((x0 - (3472328296227680304 : Int64)) <<< ((((8 : Int32) - x1) <<< ((3 : Int32) &&& 31)) &&& 0x3f).toInt64)), .second] [(.long (((x0 - (3472328296227680304 : Int64)) <<< ((((8 : Int32) - x1) <<< ((3 : Int32) &&& 31)) &&& 0x3f).toInt64) * (10 : Int64)))] (fun t k => XS.lmul X0.here hx rfl (hb hby d3_17) rfl k) ?_
  refine own_go T0 m 19 #[.val (.long x0), .second, iv x1, .val (.long ((x0 - (3472328296227680304 : Int64)) <<< ((((8 : Int32) - x1) <<< ((3 : Int32) &&& 31)) &&& 0x3f).toInt64)), .second] [(.long ((x0 - (3472328296227680304 : Int64)) <<< ((((8 : Int32) - x1) <<< ((3 : Int32) &&& 31)) &&& 0x3f).toInt64)), (.long (((x0 - (3472328296227680304 : Int64)) <<< ((((8 : Int32) - x1) <<< ((3 : Int32) &&& 31)) &&& 0x3f).toInt64) * (10 : Int64)))] (fun t k => XS.lloadN X0.here hx rfl (hb hby d3_18) rfl k) ?_
  refine own_go T0 m 21 #[.val (.long x0), .second, iv x1, .val (.long ((x0 - (3472328296227680304 : Int64)) <<< ((((8 : Int32) - x1) <<< ((3 : Int32) &&& 31)) &&& 0x3f).toInt64)), .second] [(.int 8), (.long ((x0 - (3472328296227680304 : Int64)) <<< ((((8 : Int32) - x1) <<< ((3 : Int32) &&& 31)) &&& 0x3f).toInt64)), (.long (((x0 - (3472328296227680304 : Int64)) <<< ((((8 : Int32) - x1) <<< ((3 : Int32) &&& 31)) &&& 0x3f).toInt64) * (10 : Int64)))] (fun t k => XS.bipush X0.here hx rfl (hb hby d3_19) k) ?_
  refine own_go T0 m 22 #[.val (.long x0), .second, iv x1, .val (.long ((x0 - (3472328296227680304 : Int64)) <<< ((((8 : Int32) - x1) <<< ((3 : Int32) &&& 31)) &&& 0x3f).toInt64)), .second] [(.long ((((x0 - (3472328296227680304 : Int64)) <<< ((((8 : Int32) - x1) <<< ((3 : Int32) &&& 31)) &&& 0x3f).toInt64).toUInt64 >>> ((8 : Int32) &&& 0x3f).toInt64.toUInt64).toInt64)), (.long (((x0 - (3472328296227680304 : Int64)) <<< ((((8 : Int32) - x1) <<< ((3 : Int32) &&& 31)) &&& 0x3f).toInt64) * (10 : Int64)))] (fun t k => XS.lushr X0.here hx rfl (hb hby d3_21) rfl k) ?_
  refine own_go T0 m 23 #[.val (.long x0), .second, iv x1, .val (.long ((x0 - (3472328296227680304 : Int64)) <<< ((((8 : Int32) - x1) <<< ((3 : Int32) &&& 31)) &&& 0x3f).toInt64)), .second] [(.long ((((x0 - (3472328296227680304 : Int64)) <<< ((((8 : Int32) - x1) <<< ((3 : Int32) &&& 31)) &&& 0x3f).toInt64) * (10 : Int64)) + ((((x0 - (3472328296227680304 : Int64)) <<< ((((8 : Int32) - x1) <<< ((3 : Int32) &&& 31)) &&& 0x3f).toInt64).toUInt64 >>> ((8 : Int32) &&& 0x3f).toInt64.toUInt64).toInt64)))] (fun t k => XS.ladd X0.here hx rfl (hb hby d3_22) rfl k) ?_
  refine own_go T0 m 26 #[.val (.long x0), .second, iv x1, .val (.long ((x0 - (3472328296227680304 : Int64)) <<< ((((8 : Int32) - x1) <<< ((3 : Int32) &&& 31)) &&& 0x3f).toInt64)), .second] [(.long 71777214294589695), (.long ((((x0 - (3472328296227680304 : Int64)) <<< ((((8 : Int32) - x1) <<< ((3 : Int32) &&& 31)) &&& 0x3f).toInt64) * (10 : Int64)) + ((((x0 - (3472328296227680304 : Int64)) <<< ((((8 : Int32) - x1) <<< ((3 : Int32) &&& 31)) &&& 0x3f).toInt64).toUInt64 >>> ((8 : Int32) &&& 0x3f).toInt64.toUInt64).toInt64)))] (X0.ldc2Long hx hown (mvT hZ (own_w hw 15 rfl)) (g := (mkF m 23 #[.val (.long x0), .second, iv x1, .val (.long ((x0 - (3472328296227680304 : Int64)) <<< ((((8 : Int32) - x1) <<< ((3 : Int32) &&& 31)) &&& 0x3f).toInt64)), .second] [(.long ((((x0 - (3472328296227680304 : Int64)) <<< ((((8 : Int32) - x1) <<< ((3 : Int32) &&& 31)) &&& 0x3f).toInt64) * (10 : Int64)) + ((((x0 - (3472328296227680304 : Int64)) <<< ((((8 : Int32) - x1) <<< ((3 : Int32) &&& 31)) &&& 0x3f).toInt64).toUInt64 >>> ((8 : Int32) &&& 0x3f).toInt64.toUInt64).toInt64)))])) rfl (hb hby d3_23)) ?_
  refine own_go T0 m 27 #[.val (.long x0), .second, iv x1, .val (.long ((x0 - (3472328296227680304 : Int64)) <<< ((((8 : Int32) - x1) <<< ((3 : Int32) &&& 31)) &&& 0x3f).toInt64)), .second] [(.long (((((x0 - (3472328296227680304 : Int64)) <<< ((((8 : Int32) - x1) <<< ((3 : Int32) &&& 31)) &&& 0x3f).toInt64) * (10 : Int64)) + ((((x0 - (3472328296227680304 : Int64)) <<< ((((8 : Int32) - x1) <<< ((3 : Int32) &&& 31)) &&& 0x3f).toInt64).toUInt64 >>> ((8 : Int32) &&& 0x3f).toInt64.toUInt64).toInt64)) &&& (71777214294589695 : Int64)))] (fun t k => XS.land X0.here hx rfl (hb hby d3_26) rfl k) ?_
  refine own_go T0 m 28 #[.val (.long x0), .second, iv x1, .val (.long (((((x0 - (3472328296227680304 : Int64)) <<< ((((8 : Int32) - x1) <<< ((3 : Int32) &&& 31)) &&& 0x3f).toInt64) * (10 : Int64)) + ((((x0 - (3472328296227680304 : Int64)) <<< ((((8 : Int32) - x1) <<< ((3 : Int32) &&& 31)) &&& 0x3f).toInt64).toUInt64 >>> ((8 : Int32) &&& 0x3f).toInt64.toUInt64).toInt64)) &&& (71777214294589695 : Int64))), .second] [] (fun t k => XS.lstoreN X0.here hx rfl (hb hby d3_27) rfl rfl k) ?_
  refine own_go T0 m 29 #[.val (.long x0), .second, iv x1, .val (.long (((((x0 - (3472328296227680304 : Int64)) <<< ((((8 : Int32) - x1) <<< ((3 : Int32) &&& 31)) &&& 0x3f).toInt64) * (10 : Int64)) + ((((x0 - (3472328296227680304 : Int64)) <<< ((((8 : Int32) - x1) <<< ((3 : Int32) &&& 31)) &&& 0x3f).toInt64).toUInt64 >>> ((8 : Int32) &&& 0x3f).toInt64.toUInt64).toInt64)) &&& (71777214294589695 : Int64))), .second] [(.long (((((x0 - (3472328296227680304 : Int64)) <<< ((((8 : Int32) - x1) <<< ((3 : Int32) &&& 31)) &&& 0x3f).toInt64) * (10 : Int64)) + ((((x0 - (3472328296227680304 : Int64)) <<< ((((8 : Int32) - x1) <<< ((3 : Int32) &&& 31)) &&& 0x3f).toInt64).toUInt64 >>> ((8 : Int32) &&& 0x3f).toInt64.toUInt64).toInt64)) &&& (71777214294589695 : Int64)))] (fun t k => XS.lloadN X0.here hx rfl (hb hby d3_28) rfl k) ?_
  refine own_go T0 m 32 #[.val (.long x0), .second, iv x1, .val (.long (((((x0 - (3472328296227680304 : Int64)) <<< ((((8 : Int32) - x1) <<< ((3 : Int32) &&& 31)) &&& 0x3f).toInt64) * (10 : Int64)) + ((((x0 - (3472328296227680304 : Int64)) <<< ((((8 : Int32) - x1) <<< ((3 : Int32) &&& 31)) &&& 0x3f).toInt64).toUInt64 >>> ((8 : Int32) &&& 0x3f).toInt64.toUInt64).toInt64)) &&& (71777214294589695 : Int64))), .second] [(.long 100), (.long (((((x0 - (3472328296227680304 : Int64)) <<< ((((8 : Int32) - x1) <<< ((3 : Int32) &&& 31)) &&& 0x3f).toInt64) * (10 : Int64)) + ((((x0 - (3472328296227680304 : Int64)) <<< ((((8 : Int32) - x1) <<< ((3 : Int32) &&& 31)) &&& 0x3f).toInt64).toUInt64 >>> ((8 : Int32) &&& 0x3f).toInt64.toUInt64).toInt64)) &&& (71777214294589695 : Int64)))] (X0.ldc2Long hx hown (mvT hZ (own_w hw 16 rfl)) (g := (mkF m 29 #[.val (.long x0), .second, iv x1, .val (.long (((((x0 - (3472328296227680304 : Int64)) <<< ((((8 : Int32) - x1) <<< ((3 : Int32) &&& 31)) &&& 0x3f).toInt64) * (10 : Int64)) + ((((x0 - (3472328296227680304 : Int64)) <<< ((((8 : Int32) - x1) <<< ((3 : Int32) &&& 31)) &&& 0x3f).toInt64).toUInt64 >>> ((8 : Int32) &&& 0x3f).toInt64.toUInt64).toInt64)) &&& (71777214294589695 : Int64))), .second] [(.long (((((x0 - (3472328296227680304 : Int64)) <<< ((((8 : Int32) - x1) <<< ((3 : Int32) &&& 31)) &&& 0x3f).toInt64) * (10 : Int64)) + ((((x0 - (3472328296227680304 : Int64)) <<< ((((8 : Int32) - x1) <<< ((3 : Int32) &&& 31)) &&& 0x3f).toInt64).toUInt64 >>> ((8 : Int32) &&& 0x3f).toInt64.toUInt64).toInt64)) &&& (71777214294589695 : Int64)))])) rfl (hb hby d3_29)) ?_
  refine own_go T0 m 33 #[.val (.long x0), .second, iv x1, .val (.long (((((x0 - (3472328296227680304 : Int64)) <<< ((((8 : Int32) - x1) <<< ((3 : Int32) &&& 31)) &&& 0x3f).toInt64) * (10 : Int64)) + ((((x0 - (3472328296227680304 : Int64)) <<< ((((8 : Int32) - x1) <<< ((3 : Int32) &&& 31)) &&& 0x3f).toInt64).toUInt64 >>> ((8 : Int32) &&& 0x3f).toInt64.toUInt64).toInt64)) &&& (71777214294589695 : Int64))), .second] [(.long ((((((x0 - (3472328296227680304 : Int64)) <<< ((((8 : Int32) - x1) <<< ((3 : Int32) &&& 31)) &&& 0x3f).toInt64) * (10 : Int64)) + ((((x0 - (3472328296227680304 : Int64)) <<< ((((8 : Int32) - x1) <<< ((3 : Int32) &&& 31)) &&& 0x3f).toInt64).toUInt64 >>> ((8 : Int32) &&& 0x3f).toInt64.toUInt64).toInt64)) &&& (71777214294589695 : Int64)) * (100 : Int64)))] (fun t k => XS.lmul X0.here hx rfl (hb hby d3_32) rfl k) ?_
  refine own_go T0 m 34 #[.val (.long x0), .second, iv x1, .val (.long (((((x0 - (3472328296227680304 : Int64)) <<< ((((8 : Int32) - x1) <<< ((3 : Int32) &&& 31)) &&& 0x3f).toInt64) * (10 : Int64)) + ((((x0 - (3472328296227680304 : Int64)) <<< ((((8 : Int32) - x1) <<< ((3 : Int32) &&& 31)) &&& 0x3f).toInt64).toUInt64 >>> ((8 : Int32) &&& 0x3f).toInt64.toUInt64).toInt64)) &&& (71777214294589695 : Int64))), .second] [(.long (((((x0 - (3472328296227680304 : Int64)) <<< ((((8 : Int32) - x1) <<< ((3 : Int32) &&& 31)) &&& 0x3f).toInt64) * (10 : Int64)) + ((((x0 - (3472328296227680304 : Int64)) <<< ((((8 : Int32) - x1) <<< ((3 : Int32) &&& 31)) &&& 0x3f).toInt64).toUInt64 >>> ((8 : Int32) &&& 0x3f).toInt64.toUInt64).toInt64)) &&& (71777214294589695 : Int64))), (.long ((((((x0 - (3472328296227680304 : Int64)) <<< ((((8 : Int32) - x1) <<< ((3 : Int32) &&& 31)) &&& 0x3f).toInt64) * (10 : Int64)) + ((((x0 - (3472328296227680304 : Int64)) <<< ((((8 : Int32) - x1) <<< ((3 : Int32) &&& 31)) &&& 0x3f).toInt64).toUInt64 >>> ((8 : Int32) &&& 0x3f).toInt64.toUInt64).toInt64)) &&& (71777214294589695 : Int64)) * (100 : Int64)))] (fun t k => XS.lloadN X0.here hx rfl (hb hby d3_33) rfl k) ?_
  refine own_go T0 m 36 #[.val (.long x0), .second, iv x1, .val (.long (((((x0 - (3472328296227680304 : Int64)) <<< ((((8 : Int32) - x1) <<< ((3 : Int32) &&& 31)) &&& 0x3f).toInt64) * (10 : Int64)) + ((((x0 - (3472328296227680304 : Int64)) <<< ((((8 : Int32) - x1) <<< ((3 : Int32) &&& 31)) &&& 0x3f).toInt64).toUInt64 >>> ((8 : Int32) &&& 0x3f).toInt64.toUInt64).toInt64)) &&& (71777214294589695 : Int64))), .second] [(.int 16), (.long (((((x0 - (3472328296227680304 : Int64)) <<< ((((8 : Int32) - x1) <<< ((3 : Int32) &&& 31)) &&& 0x3f).toInt64) * (10 : Int64)) + ((((x0 - (3472328296227680304 : Int64)) <<< ((((8 : Int32) - x1) <<< ((3 : Int32) &&& 31)) &&& 0x3f).toInt64).toUInt64 >>> ((8 : Int32) &&& 0x3f).toInt64.toUInt64).toInt64)) &&& (71777214294589695 : Int64))), (.long ((((((x0 - (3472328296227680304 : Int64)) <<< ((((8 : Int32) - x1) <<< ((3 : Int32) &&& 31)) &&& 0x3f).toInt64) * (10 : Int64)) + ((((x0 - (3472328296227680304 : Int64)) <<< ((((8 : Int32) - x1) <<< ((3 : Int32) &&& 31)) &&& 0x3f).toInt64).toUInt64 >>> ((8 : Int32) &&& 0x3f).toInt64.toUInt64).toInt64)) &&& (71777214294589695 : Int64)) * (100 : Int64)))] (fun t k => XS.bipush X0.here hx rfl (hb hby d3_34) k) ?_
  refine own_go T0 m 37 #[.val (.long x0), .second, iv x1, .val (.long (((((x0 - (3472328296227680304 : Int64)) <<< ((((8 : Int32) - x1) <<< ((3 : Int32) &&& 31)) &&& 0x3f).toInt64) * (10 : Int64)) + ((((x0 - (3472328296227680304 : Int64)) <<< ((((8 : Int32) - x1) <<< ((3 : Int32) &&& 31)) &&& 0x3f).toInt64).toUInt64 >>> ((8 : Int32) &&& 0x3f).toInt64.toUInt64).toInt64)) &&& (71777214294589695 : Int64))), .second] [(.long (((((((x0 - (3472328296227680304 : Int64)) <<< ((((8 : Int32) - x1) <<< ((3 : Int32) &&& 31)) &&& 0x3f).toInt64) * (10 : Int64)) + ((((x0 - (3472328296227680304 : Int64)) <<< ((((8 : Int32) - x1) <<< ((3 : Int32) &&& 31)) &&& 0x3f).toInt64).toUInt64 >>> ((8 : Int32) &&& 0x3f).toInt64.toUInt64).toInt64)) &&& (71777214294589695 : Int64)).toUInt64 >>> ((16 : Int32) &&& 0x3f).toInt64.toUInt64).toInt64)), (.long ((((((x0 - (3472328296227680304 : Int64)) <<< ((((8 : Int32) - x1) <<< ((3 : Int32) &&& 31)) &&& 0x3f).toInt64) * (10 : Int64)) + ((((x0 - (3472328296227680304 : Int64)) <<< ((((8 : Int32) - x1) <<< ((3 : Int32) &&& 31)) &&& 0x3f).toInt64).toUInt64 >>> ((8 : Int32) &&& 0x3f).toInt64.toUInt64).toInt64)) &&& (71777214294589695 : Int64)) * (100 : Int64)))] (fun t k => XS.lushr X0.here hx rfl (hb hby d3_36) rfl k) ?_
  refine own_go T0 m 38 #[.val (.long x0), .second, iv x1, .val (.long (((((x0 - (3472328296227680304 : Int64)) <<< ((((8 : Int32) - x1) <<< ((3 : Int32) &&& 31)) &&& 0x3f).toInt64) * (10 : Int64)) + ((((x0 - (3472328296227680304 : Int64)) <<< ((((8 : Int32) - x1) <<< ((3 : Int32) &&& 31)) &&& 0x3f).toInt64).toUInt64 >>> ((8 : Int32) &&& 0x3f).toInt64.toUInt64).toInt64)) &&& (71777214294589695 : Int64))), .second] [(.long (((((((x0 - (3472328296227680304 : Int64)) <<< ((((8 : Int32) - x1) <<< ((3 : Int32) &&& 31)) &&& 0x3f).toInt64) * (10 : Int64)) + ((((x0 - (3472328296227680304 : Int64)) <<< ((((8 : Int32) - x1) <<< ((3 : Int32) &&& 31)) &&& 0x3f).toInt64).toUInt64 >>> ((8 : Int32) &&& 0x3f).toInt64.toUInt64).toInt64)) &&& (71777214294589695 : Int64)) * (100 : Int64)) + (((((((x0 - (3472328296227680304 : Int64)) <<< ((((8 : Int32) - x1) <<< ((3 : Int32) &&& 31)) &&& 0x3f).toInt64) * (10 : Int64)) + ((((x0 - (3472328296227680304 : Int64)) <<< ((((8 : Int32) - x1) <<< ((3 : Int32) &&& 31)) &&& 0x3f).toInt64).toUInt64 >>> ((8 : Int32) &&& 0x3f).toInt64.toUInt64).toInt64)) &&& (71777214294589695 : Int64)).toUInt64 >>> ((16 : Int32) &&& 0x3f).toInt64.toUInt64).toInt64)))] (fun t k => XS.ladd X0.here hx rfl (hb hby d3_37) rfl k) ?_
  refine own_go T0 m 41 #[.val (.long x0), .second, iv x1, .val (.long (((((x0 - (3472328296227680304 : Int64)) <<< ((((8 : Int32) - x1) <<< ((3 : Int32) &&& 31)) &&& 0x3f).toInt64) * (10 : Int64)) + ((((x0 - (3472328296227680304 : Int64)) <<< ((((8 : Int32) - x1) <<< ((3 : Int32) &&& 31)) &&& 0x3f).toInt64).toUInt64 >>> ((8 : Int32) &&& 0x3f).toInt64.toUInt64).toInt64)) &&& (71777214294589695 : Int64))), .second] [(.long 281470681808895), (.long (((((((x0 - (3472328296227680304 : Int64)) <<< ((((8 : Int32) - x1) <<< ((3 : Int32) &&& 31)) &&& 0x3f).toInt64) * (10 : Int64)) + ((((x0 - (3472328296227680304 : Int64)) <<< ((((8 : Int32) - x1) <<< ((3 : Int32) &&& 31)) &&& 0x3f).toInt64).toUInt64 >>> ((8 : Int32) &&& 0x3f).toInt64.toUInt64).toInt64)) &&& (71777214294589695 : Int64)) * (100 : Int64)) + (((((((x0 - (3472328296227680304 : Int64)) <<< ((((8 : Int32) - x1) <<< ((3 : Int32) &&& 31)) &&& 0x3f).toInt64) * (10 : Int64)) + ((((x0 - (3472328296227680304 : Int64)) <<< ((((8 : Int32) - x1) <<< ((3 : Int32) &&& 31)) &&& 0x3f).toInt64).toUInt64 >>> ((8 : Int32) &&& 0x3f).toInt64.toUInt64).toInt64)) &&& (71777214294589695 : Int64)).toUInt64 >>> ((16 : Int32) &&& 0x3f).toInt64.toUInt64).toInt64)))] (X0.ldc2Long hx hown (mvT hZ (own_w hw 17 rfl)) (g := (mkF m 38 #[.val (.long x0), .second, iv x1, .val (.long (((((x0 - (3472328296227680304 : Int64)) <<< ((((8 : Int32) - x1) <<< ((3 : Int32) &&& 31)) &&& 0x3f).toInt64) * (10 : Int64)) + ((((x0 - (3472328296227680304 : Int64)) <<< ((((8 : Int32) - x1) <<< ((3 : Int32) &&& 31)) &&& 0x3f).toInt64).toUInt64 >>> ((8 : Int32) &&& 0x3f).toInt64.toUInt64).toInt64)) &&& (71777214294589695 : Int64))), .second] [(.long (((((((x0 - (3472328296227680304 : Int64)) <<< ((((8 : Int32) - x1) <<< ((3 : Int32) &&& 31)) &&& 0x3f).toInt64) * (10 : Int64)) + ((((x0 - (3472328296227680304 : Int64)) <<< ((((8 : Int32) - x1) <<< ((3 : Int32) &&& 31)) &&& 0x3f).toInt64).toUInt64 >>> ((8 : Int32) &&& 0x3f).toInt64.toUInt64).toInt64)) &&& (71777214294589695 : Int64)) * (100 : Int64)) + (((((((x0 - (3472328296227680304 : Int64)) <<< ((((8 : Int32) - x1) <<< ((3 : Int32) &&& 31)) &&& 0x3f).toInt64) * (10 : Int64)) + ((((x0 - (3472328296227680304 : Int64)) <<< ((((8 : Int32) - x1) <<< ((3 : Int32) &&& 31)) &&& 0x3f).toInt64).toUInt64 >>> ((8 : Int32) &&& 0x3f).toInt64.toUInt64).toInt64)) &&& (71777214294589695 : Int64)).toUInt64 >>> ((16 : Int32) &&& 0x3f).toInt64.toUInt64).toInt64)))])) rfl (hb hby d3_38)) ?_
  refine own_go T0 m 42 #[.val (.long x0), .second, iv x1, .val (.long (((((x0 - (3472328296227680304 : Int64)) <<< ((((8 : Int32) - x1) <<< ((3 : Int32) &&& 31)) &&& 0x3f).toInt64) * (10 : Int64)) + ((((x0 - (3472328296227680304 : Int64)) <<< ((((8 : Int32) - x1) <<< ((3 : Int32) &&& 31)) &&& 0x3f).toInt64).toUInt64 >>> ((8 : Int32) &&& 0x3f).toInt64.toUInt64).toInt64)) &&& (71777214294589695 : Int64))), .second] [(.long ((((((((x0 - (3472328296227680304 : Int64)) <<< ((((8 : Int32) - x1) <<< ((3 : Int32) &&& 31)) &&& 0x3f).toInt64) * (10 : Int64)) + ((((x0 - (3472328296227680304 : Int64)) <<< ((((8 : Int32) - x1) <<< ((3 : Int32) &&& 31)) &&& 0x3f).toInt64).toUInt64 >>> ((8 : Int32) &&& 0x3f).toInt64.toUInt64).toInt64)) &&& (71777214294589695 : Int64)) * (100 : Int64)) + (((((((x0 - (3472328296227680304 : Int64)) <<< ((((8 : Int32) - x1) <<< ((3 : Int32) &&& 31)) &&& 0x3f).toInt64) * (10 : Int64)) + ((((x0 - (3472328296227680304 : Int64)) <<< ((((8 : Int32) - x1) <<< ((3 : Int32) &&& 31)) &&& 0x3f).toInt64).toUInt64 >>> ((8 : Int32) &&& 0x3f).toInt64.toUInt64).toInt64)) &&& (71777214294589695 : Int64)).toUInt64 >>> ((16 : Int32) &&& 0x3f).toInt64.toUInt64).toInt64)) &&& (281470681808895 : Int64)))] (fun t k => XS.land X0.here hx rfl (hb hby d3_41) rfl k) ?_
  refine own_go T0 m 43 #[.val (.long x0), .second, iv x1, .val (.long ((((((((x0 - (3472328296227680304 : Int64)) <<< ((((8 : Int32) - x1) <<< ((3 : Int32) &&& 31)) &&& 0x3f).toInt64) * (10 : Int64)) + ((((x0 - (3472328296227680304 : Int64)) <<< ((((8 : Int32) - x1) <<< ((3 : Int32) &&& 31)) &&& 0x3f).toInt64).toUInt64 >>> ((8 : Int32) &&& 0x3f).toInt64.toUInt64).toInt64)) &&& (71777214294589695 : Int64)) * (100 : Int64)) + (((((((x0 - (3472328296227680304 : Int64)) <<< ((((8 : Int32) - x1) <<< ((3 : Int32) &&& 31)) &&& 0x3f).toInt64) * (10 : Int64)) + ((((x0 - (3472328296227680304 : Int64)) <<< ((((8 : Int32) - x1) <<< ((3 : Int32) &&& 31)) &&& 0x3f).toInt64).toUInt64 >>> ((8 : Int32) &&& 0x3f).toInt64.toUInt64).toInt64)) &&& (71777214294589695 : Int64)).toUInt64 >>> ((16 : Int32) &&& 0x3f).toInt64.toUInt64).toInt64)) &&& (281470681808895 : Int64))), .second] [] (fun t k => XS.lstoreN X0.here hx rfl (hb hby d3_42) rfl rfl k) ?_
  refine own_go T0 m 44 #[.val (.long x0), .second, iv x1, .val (.long ((((((((x0 - (3472328296227680304 : Int64)) <<< ((((8 : Int32) - x1) <<< ((3 : Int32) &&& 31)) &&& 0x3f).toInt64) * (10 : Int64)) + ((((x0 - (3472328296227680304 : Int64)) <<< ((((8 : Int32) - x1) <<< ((3 : Int32) &&& 31)) &&& 0x3f).toInt64).toUInt64 >>> ((8 : Int32) &&& 0x3f).toInt64.toUInt64).toInt64)) &&& (71777214294589695 : Int64)) * (100 : Int64)) + (((((((x0 - (3472328296227680304 : Int64)) <<< ((((8 : Int32) - x1) <<< ((3 : Int32) &&& 31)) &&& 0x3f).toInt64) * (10 : Int64)) + ((((x0 - (3472328296227680304 : Int64)) <<< ((((8 : Int32) - x1) <<< ((3 : Int32) &&& 31)) &&& 0x3f).toInt64).toUInt64 >>> ((8 : Int32) &&& 0x3f).toInt64.toUInt64).toInt64)) &&& (71777214294589695 : Int64)).toUInt64 >>> ((16 : Int32) &&& 0x3f).toInt64.toUInt64).toInt64)) &&& (281470681808895 : Int64))), .second] [(.long ((((((((x0 - (3472328296227680304 : Int64)) <<< ((((8 : Int32) - x1) <<< ((3 : Int32) &&& 31)) &&& 0x3f).toInt64) * (10 : Int64)) + ((((x0 - (3472328296227680304 : Int64)) <<< ((((8 : Int32) - x1) <<< ((3 : Int32) &&& 31)) &&& 0x3f).toInt64).toUInt64 >>> ((8 : Int32) &&& 0x3f).toInt64.toUInt64).toInt64)) &&& (71777214294589695 : Int64)) * (100 : Int64)) + (((((((x0 - (3472328296227680304 : Int64)) <<< ((((8 : Int32) - x1) <<< ((3 : Int32) &&& 31)) &&& 0x3f).toInt64) * (10 : Int64)) + ((((x0 - (3472328296227680304 : Int64)) <<< ((((8 : Int32) - x1) <<< ((3 : Int32) &&& 31)) &&& 0x3f).toInt64).toUInt64 >>> ((8 : Int32) &&& 0x3f).toInt64.toUInt64).toInt64)) &&& (71777214294589695 : Int64)).toUInt64 >>> ((16 : Int32) &&& 0x3f).toInt64.toUInt64).toInt64)) &&& (281470681808895 : Int64)))] (fun t k => XS.lloadN X0.here hx rfl (hb hby d3_43) rfl k) ?_
  refine own_go T0 m 47 #[.val (.long x0), .second, iv x1, .val (.long ((((((((x0 - (3472328296227680304 : Int64)) <<< ((((8 : Int32) - x1) <<< ((3 : Int32) &&& 31)) &&& 0x3f).toInt64) * (10 : Int64)) + ((((x0 - (3472328296227680304 : Int64)) <<< ((((8 : Int32) - x1) <<< ((3 : Int32) &&& 31)) &&& 0x3f).toInt64).toUInt64 >>> ((8 : Int32) &&& 0x3f).toInt64.toUInt64).toInt64)) &&& (71777214294589695 : Int64)) * (100 : Int64)) + (((((((x0 - (3472328296227680304 : Int64)) <<< ((((8 : Int32) - x1) <<< ((3 : Int32) &&& 31)) &&& 0x3f).toInt64) * (10 : Int64)) + ((((x0 - (3472328296227680304 : Int64)) <<< ((((8 : Int32) - x1) <<< ((3 : Int32) &&& 31)) &&& 0x3f).toInt64).toUInt64 >>> ((8 : Int32) &&& 0x3f).toInt64.toUInt64).toInt64)) &&& (71777214294589695 : Int64)).toUInt64 >>> ((16 : Int32) &&& 0x3f).toInt64.toUInt64).toInt64)) &&& (281470681808895 : Int64))), .second] [(.long 10000), (.long ((((((((x0 - (3472328296227680304 : Int64)) <<< ((((8 : Int32) - x1) <<< ((3 : Int32) &&& 31)) &&& 0x3f).toInt64) * (10 : Int64)) + ((((x0 - (3472328296227680304 : Int64)) <<< ((((8 : Int32) - x1) <<< ((3 : Int32) &&& 31)) &&& 0x3f).toInt64).toUInt64 >>> ((8 : Int32) &&& 0x3f).toInt64.toUInt64).toInt64)) &&& (71777214294589695 : Int64)) * (100 : Int64)) + (((((((x0 - (3472328296227680304 : Int64)) <<< ((((8 : Int32) - x1) <<< ((3 : Int32) &&& 31)) &&& 0x3f).toInt64) * (10 : Int64)) + ((((x0 - (3472328296227680304 : Int64)) <<< ((((8 : Int32) - x1) <<< ((3 : Int32) &&& 31)) &&& 0x3f).toInt64).toUInt64 >>> ((8 : Int32) &&& 0x3f).toInt64.toUInt64).toInt64)) &&& (71777214294589695 : Int64)).toUInt64 >>> ((16 : Int32) &&& 0x3f).toInt64.toUInt64).toInt64)) &&& (281470681808895 : Int64)))] (X0.ldc2Long hx hown (mvT hZ (own_w hw 18 rfl)) (g := (mkF m 44 #[.val (.long x0), .second, iv x1, .val (.long ((((((((x0 - (3472328296227680304 : Int64)) <<< ((((8 : Int32) - x1) <<< ((3 : Int32) &&& 31)) &&& 0x3f).toInt64) * (10 : Int64)) + ((((x0 - (3472328296227680304 : Int64)) <<< ((((8 : Int32) - x1) <<< ((3 : Int32) &&& 31)) &&& 0x3f).toInt64).toUInt64 >>> ((8 : Int32) &&& 0x3f).toInt64.toUInt64).toInt64)) &&& (71777214294589695 : Int64)) * (100 : Int64)) + (((((((x0 - (3472328296227680304 : Int64)) <<< ((((8 : Int32) - x1) <<< ((3 : Int32) &&& 31)) &&& 0x3f).toInt64) * (10 : Int64)) + ((((x0 - (3472328296227680304 : Int64)) <<< ((((8 : Int32) - x1) <<< ((3 : Int32) &&& 31)) &&& 0x3f).toInt64).toUInt64 >>> ((8 : Int32) &&& 0x3f).toInt64.toUInt64).toInt64)) &&& (71777214294589695 : Int64)).toUInt64 >>> ((16 : Int32) &&& 0x3f).toInt64.toUInt64).toInt64)) &&& (281470681808895 : Int64))), .second] [(.long ((((((((x0 - (3472328296227680304 : Int64)) <<< ((((8 : Int32) - x1) <<< ((3 : Int32) &&& 31)) &&& 0x3f).toInt64) * (10 : Int64)) + ((((x0 - (3472328296227680304 : Int64)) <<< ((((8 : Int32) - x1) <<< ((3 : Int32) &&& 31)) &&& 0x3f).toInt64).toUInt64 >>> ((8 : Int32) &&& 0x3f).toInt64.toUInt64).toInt64)) &&& (71777214294589695 : Int64)) * (100 : Int64)) + (((((((x0 - (3472328296227680304 : Int64)) <<< ((((8 : Int32) - x1) <<< ((3 : Int32) &&& 31)) &&& 0x3f).toInt64) * (10 : Int64)) + ((((x0 - (3472328296227680304 : Int64)) <<< ((((8 : Int32) - x1) <<< ((3 : Int32) &&& 31)) &&& 0x3f).toInt64).toUInt64 >>> ((8 : Int32) &&& 0x3f).toInt64.toUInt64).toInt64)) &&& (71777214294589695 : Int64)).toUInt64 >>> ((16 : Int32) &&& 0x3f).toInt64.toUInt64).toInt64)) &&& (281470681808895 : Int64)))])) rfl (hb hby d3_44)) ?_
  refine own_go T0 m 48 #[.val (.long x0), .second, iv x1, .val (.long ((((((((x0 - (3472328296227680304 : Int64)) <<< ((((8 : Int32) - x1) <<< ((3 : Int32) &&& 31)) &&& 0x3f).toInt64) * (10 : Int64)) + ((((x0 - (3472328296227680304 : Int64)) <<< ((((8 : Int32) - x1) <<< ((3 : Int32) &&& 31)) &&& 0x3f).toInt64).toUInt64 >>> ((8 : Int32) &&& 0x3f).toInt64.toUInt64).toInt64)) &&& (71777214294589695 : Int64)) * (100 : Int64)) + (((((((x0 - (3472328296227680304 : Int64)) <<< ((((8 : Int32) - x1) <<< ((3 : Int32) &&& 31)) &&& 0x3f).toInt64) * (10 : Int64)) + ((((x0 - (3472328296227680304 : Int64)) <<< ((((8 : Int32) - x1) <<< ((3 : Int32) &&& 31)) &&& 0x3f).toInt64).toUInt64 >>> ((8 : Int32) &&& 0x3f).toInt64.toUInt64).toInt64)) &&& (71777214294589695 : Int64)).toUInt64 >>> ((16 : Int32) &&& 0x3f).toInt64.toUInt64).toInt64)) &&& (281470681808895 : Int64))), .second] [(.long (((((((((x0 - (3472328296227680304 : Int64)) <<< ((((8 : Int32) - x1) <<< ((3 : Int32) &&& 31)) &&& 0x3f).toInt64) * (10 : Int64)) + ((((x0 - (3472328296227680304 : Int64)) <<< ((((8 : Int32) - x1) <<< ((3 : Int32) &&& 31)) &&& 0x3f).toInt64).toUInt64 >>> ((8 : Int32) &&& 0x3f).toInt64.toUInt64).toInt64)) &&& (71777214294589695 : Int64)) * (100 : Int64)) + (((((((x0 - (3472328296227680304 : Int64)) <<< ((((8 : Int32) - x1) <<< ((3 : Int32) &&& 31)) &&& 0x3f).toInt64) * (10 : Int64)) + ((((x0 - (3472328296227680304 : Int64)) <<< ((((8 : Int32) - x1) <<< ((3 : Int32) &&& 31)) &&& 0x3f).toInt64).toUInt64 >>> ((8 : Int32) &&& 0x3f).toInt64.toUInt64).toInt64)) &&& (71777214294589695 : Int64)).toUInt64 >>> ((16 : Int32) &&& 0x3f).toInt64.toUInt64).toInt64)) &&& (281470681808895 : Int64)) * (10000 : Int64)))] (fun t k => XS.lmul X0.here hx rfl (hb hby d3_47) rfl k) ?_
  refine own_go T0 m 49 #[.val (.long x0), .second, iv x1, .val (.long ((((((((x0 - (3472328296227680304 : Int64)) <<< ((((8 : Int32) - x1) <<< ((3 : Int32) &&& 31)) &&& 0x3f).toInt64) * (10 : Int64)) + ((((x0 - (3472328296227680304 : Int64)) <<< ((((8 : Int32) - x1) <<< ((3 : Int32) &&& 31)) &&& 0x3f).toInt64).toUInt64 >>> ((8 : Int32) &&& 0x3f).toInt64.toUInt64).toInt64)) &&& (71777214294589695 : Int64)) * (100 : Int64)) + (((((((x0 - (3472328296227680304 : Int64)) <<< ((((8 : Int32) - x1) <<< ((3 : Int32) &&& 31)) &&& 0x3f).toInt64) * (10 : Int64)) + ((((x0 - (3472328296227680304 : Int64)) <<< ((((8 : Int32) - x1) <<< ((3 : Int32) &&& 31)) &&& 0x3f).toInt64).toUInt64 >>> ((8 : Int32) &&& 0x3f).toInt64.toUInt64).toInt64)) &&& (71777214294589695 : Int64)).toUInt64 >>> ((16 : Int32) &&& 0x3f).toInt64.toUInt64).toInt64)) &&& (281470681808895 : Int64))), .second] [(.long ((((((((x0 - (3472328296227680304 : Int64)) <<< ((((8 : Int32) - x1) <<< ((3 : Int32) &&& 31)) &&& 0x3f).toInt64) * (10 : Int64)) + ((((x0 - (3472328296227680304 : Int64)) <<< ((((8 : Int32) - x1) <<< ((3 : Int32) &&& 31)) &&& 0x3f).toInt64).toUInt64 >>> ((8 : Int32) &&& 0x3f).toInt64.toUInt64).toInt64)) &&& (71777214294589695 : Int64)) * (100 : Int64)) + (((((((x0 - (3472328296227680304 : Int64)) <<< ((((8 : Int32) - x1) <<< ((3 : Int32) &&& 31)) &&& 0x3f).toInt64) * (10 : Int64)) + ((((x0 - (3472328296227680304 : Int64)) <<< ((((8 : Int32) - x1) <<< ((3 : Int32) &&& 31)) &&& 0x3f).toInt64).toUInt64 >>> ((8 : Int32) &&& 0x3f).toInt64.toUInt64).toInt64)) &&& (71777214294589695 : Int64)).toUInt64 >>> ((16 : Int32) &&& 0x3f).toInt64.toUInt64).toInt64)) &&& (281470681808895 : Int64))), (.long (((((((((x0 - (3472328296227680304 : Int64)) <<< ((((8 : Int32) - x1) <<< ((3 : Int32) &&& 31)) &&& 0x3f).toInt64) * (10 : Int64)) + ((((x0 - (3472328296227680304 : Int64)) <<< ((((8 : Int32) - x1) <<< ((3 : Int32) &&& 31)) &&& 0x3f).toInt64).toUInt64 >>> ((8 : Int32) &&& 0x3f).toInt64.toUInt64).toInt64)) &&& (71777214294589695 : Int64)) * (100 : Int64)) + (((((((x0 - (3472328296227680304 : Int64)) <<< ((((8 : Int32) - x1) <<< ((3 : Int32) &&& 31)) &&& 0x3f).toInt64) * (10 : Int64)) + ((((x0 - (3472328296227680304 : Int64)) <<< ((((8 : Int32) - x1) <<< ((3 : Int32) &&& 31)) &&& 0x3f).toInt64).toUInt64 >>> ((8 : Int32) &&& 0x3f).toInt64.toUInt64).toInt64)) &&& (71777214294589695 : Int64)).toUInt64 >>> ((16 : Int32) &&& 0x3f).toInt64.toUInt64).toInt64)) &&& (281470681808895 : Int64)) * (10000 : Int64)))] (fun t k => XS.lloadN X0.here hx rfl (hb hby d3_48) rfl k) ?_
  refine own_go T0 m 51 #[.val (.long x0), .second, iv x1, .val (.long ((((((((x0 - (3472328296227680304 : Int64)) <<< ((((8 : Int32) - x1) <<< ((3 : Int32) &&& 31)) &&& 0x3f).toInt64) * (10 : Int64)) + ((((x0 - (3472328296227680304 : Int64)) <<< ((((8 : Int32) - x1) <<< ((3 : Int32) &&& 31)) &&& 0x3f).toInt64).toUInt64 >>> ((8 : Int32) &&& 0x3f).toInt64.toUInt64).toInt64)) &&& (71777214294589695 : Int64)) * (100 : Int64)) + (((((((x0 - (3472328296227680304 : Int64)) <<< ((((8 : Int32) - x1) <<< ((3 : Int32) &&& 31)) &&& 0x3f).toInt64) * (10 : Int64)) + ((((x0 - (3472328296227680304 : Int64)) <<< ((((8 : Int32) - x1) <<< ((3 : Int32) &&& 31)) &&& 0x3f).toInt64).toUInt64 >>> ((8 : Int32) &&& 0x3f).toInt64.toUInt64).toInt64)) &&& (71777214294589695 : Int64)).toUInt64 >>> ((16 : Int32) &&& 0x3f).toInt64.toUInt64).toInt64)) &&& (281470681808895 : Int64))), .second] [(.int 32), (.long ((((((((x0 - (3472328296227680304 : Int64)) <<< ((((8 : Int32) - x1) <<< ((3 : Int32) &&& 31)) &&& 0x3f).toInt64) * (10 : Int64)) + ((((x0 - (3472328296227680304 : Int64)) <<< ((((8 : Int32) - x1) <<< ((3 : Int32) &&& 31)) &&& 0x3f).toInt64).toUInt64 >>> ((8 : Int32) &&& 0x3f).toInt64.toUInt64).toInt64)) &&& (71777214294589695 : Int64)) * (100 : Int64)) + (((((((x0 - (3472328296227680304 : Int64)) <<< ((((8 : Int32) - x1) <<< ((3 : Int32) &&& 31)) &&& 0x3f).toInt64) * (10 : Int64)) + ((((x0 - (3472328296227680304 : Int64)) <<< ((((8 : Int32) - x1) <<< ((3 : Int32) &&& 31)) &&& 0x3f).toInt64).toUInt64 >>> ((8 : Int32) &&& 0x3f).toInt64.toUInt64).toInt64)) &&& (71777214294589695 : Int64)).toUInt64 >>> ((16 : Int32) &&& 0x3f).toInt64.toUInt64).toInt64)) &&& (281470681808895 : Int64))), (.long (((((((((x0 - (3472328296227680304 : Int64)) <<< ((((8 : Int32) - x1) <<< ((3 : Int32) &&& 31)) &&& 0x3f).toInt64) * (10 : Int64)) + ((((x0 - (3472328296227680304 : Int64)) <<< ((((8 : Int32) - x1) <<< ((3 : Int32) &&& 31)) &&& 0x3f).toInt64).toUInt64 >>> ((8 : Int32) &&& 0x3f).toInt64.toUInt64).toInt64)) &&& (71777214294589695 : Int64)) * (100 : Int64)) + (((((((x0 - (3472328296227680304 : Int64)) <<< ((((8 : Int32) - x1) <<< ((3 : Int32) &&& 31)) &&& 0x3f).toInt64) * (10 : Int64)) + ((((x0 - (3472328296227680304 : Int64)) <<< ((((8 : Int32) - x1) <<< ((3 : Int32) &&& 31)) &&& 0x3f).toInt64).toUInt64 >>> ((8 : Int32) &&& 0x3f).toInt64.toUInt64).toInt64)) &&& (71777214294589695 : Int64)).toUInt64 >>> ((16 : Int32) &&& 0x3f).toInt64.toUInt64).toInt64)) &&& (281470681808895 : Int64)) * (10000 : Int64)))] (fun t k => XS.bipush X0.here hx rfl (hb hby d3_49) k) ?_
  refine own_go T0 m 52 #[.val (.long x0), .second, iv x1, .val (.long ((((((((x0 - (3472328296227680304 : Int64)) <<< ((((8 : Int32) - x1) <<< ((3 : Int32) &&& 31)) &&& 0x3f).toInt64) * (10 : Int64)) + ((((x0 - (3472328296227680304 : Int64)) <<< ((((8 : Int32) - x1) <<< ((3 : Int32) &&& 31)) &&& 0x3f).toInt64).toUInt64 >>> ((8 : Int32) &&& 0x3f).toInt64.toUInt64).toInt64)) &&& (71777214294589695 : Int64)) * (100 : Int64)) + (((((((x0 - (3472328296227680304 : Int64)) <<< ((((8 : Int32) - x1) <<< ((3 : Int32) &&& 31)) &&& 0x3f).toInt64) * (10 : Int64)) + ((((x0 - (3472328296227680304 : Int64)) <<< ((((8 : Int32) - x1) <<< ((3 : Int32) &&& 31)) &&& 0x3f).toInt64).toUInt64 >>> ((8 : Int32) &&& 0x3f).toInt64.toUInt64).toInt64)) &&& (71777214294589695 : Int64)).toUInt64 >>> ((16 : Int32) &&& 0x3f).toInt64.toUInt64).toInt64)) &&& (281470681808895 : Int64))), .second] [(.long ((((((((((x0 - (3472328296227680304 : Int64)) <<< ((((8 : Int32) - x1) <<< ((3 : Int32) &&& 31)) &&& 0x3f).toInt64) * (10 : Int64)) + ((((x0 - (3472328296227680304 : Int64)) <<< ((((8 : Int32) - x1) <<< ((3 : Int32) &&& 31)) &&& 0x3f).toInt64).toUInt64 >>> ((8 : Int32) &&& 0x3f).toInt64.toUInt64).toInt64)) &&& (71777214294589695 : Int64)) * (100 : Int64)) + (((((((x0 - (3472328296227680304 : Int64)) <<< ((((8 : Int32) - x1) <<< ((3 : Int32) &&& 31)) &&& 0x3f).toInt64) * (10 : Int64)) + ((((x0 - (3472328296227680304 : Int64)) <<< ((((8 : Int32) - x1) <<< ((3 : Int32) &&& 31)) &&& 0x3f).toInt64).toUInt64 >>> ((8 : Int32) &&& 0x3f).toInt64.toUInt64).toInt64)) &&& (71777214294589695 : Int64)).toUInt64 >>> ((16 : Int32) &&& 0x3f).toInt64.toUInt64).toInt64)) &&& (281470681808895 : Int64)).toUInt64 >>> ((32 : Int32) &&& 0x3f).toInt64.toUInt64).toInt64)), (.long (((((((((x0 - (3472328296227680304 : Int64)) <<< ((((8 : Int32) - x1) <<< ((3 : Int32) &&& 31)) &&& 0x3f).toInt64) * (10 : Int64)) + ((((x0 - (3472328296227680304 : Int64)) <<< ((((8 : Int32) - x1) <<< ((3 : Int32) &&& 31)) &&& 0x3f).toInt64).toUInt64 >>> ((8 : Int32) &&& 0x3f).toInt64.toUInt64).toInt64)) &&& (71777214294589695 : Int64)) * (100 : Int64)) + (((((((x0 - (3472328296227680304 : Int64)) <<< ((((8 : Int32) - x1) <<< ((3 : Int32) &&& 31)) &&& 0x3f).toInt64) * (10 : Int64)) + ((((x0 - (3472328296227680304 : Int64)) <<< ((((8 : Int32) - x1) <<< ((3 : Int32) &&& 31)) &&& 0x3f).toInt64).toUInt64 >>> ((8 : Int32) &&& 0x3f).toInt64.toUInt64).toInt64)) &&& (71777214294589695 : Int64)).toUInt64 >>> ((16 : Int32) &&& 0x3f).toInt64.toUInt64).toInt64)) &&& (281470681808895 : Int64)) * (10000 : Int64)))] (fun t k => XS.lushr X0.here hx rfl (hb hby d3_51) rfl k) ?_
  refine own_go T0 m 53 #[.val (.long x0), .second, iv x1, .val (.long ((((((((x0 - (3472328296227680304 : Int64)) <<< ((((8 : Int32) - x1) <<< ((3 : Int32) &&& 31)) &&& 0x3f).toInt64) * (10 : Int64)) + ((((x0 - (3472328296227680304 : Int64)) <<< ((((8 : Int32) - x1) <<< ((3 : Int32) &&& 31)) &&& 0x3f).toInt64).toUInt64 >>> ((8 : Int32) &&& 0x3f).toInt64.toUInt64).toInt64)) &&& (71777214294589695 : Int64)) * (100 : Int64)) + (((((((x0 - (3472328296227680304 : Int64)) <<< ((((8 : Int32) - x1) <<< ((3 : Int32) &&& 31)) &&& 0x3f).toInt64) * (10 : Int64)) + ((((x0 - (3472328296227680304 : Int64)) <<< ((((8 : Int32) - x1) <<< ((3 : Int32) &&& 31)) &&& 0x3f).toInt64).toUInt64 >>> ((8 : Int32) &&& 0x3f).toInt64.toUInt64).toInt64)) &&& (71777214294589695 : Int64)).toUInt64 >>> ((16 : Int32) &&& 0x3f).toInt64.toUInt64).toInt64)) &&& (281470681808895 : Int64))), .second] [(.long ((((((((((x0 - (3472328296227680304 : Int64)) <<< ((((8 : Int32) - x1) <<< ((3 : Int32) &&& 31)) &&& 0x3f).toInt64) * (10 : Int64)) + ((((x0 - (3472328296227680304 : Int64)) <<< ((((8 : Int32) - x1) <<< ((3 : Int32) &&& 31)) &&& 0x3f).toInt64).toUInt64 >>> ((8 : Int32) &&& 0x3f).toInt64.toUInt64).toInt64)) &&& (71777214294589695 : Int64)) * (100 : Int64)) + (((((((x0 - (3472328296227680304 : Int64)) <<< ((((8 : Int32) - x1) <<< ((3 : Int32) &&& 31)) &&& 0x3f).toInt64) * (10 : Int64)) + ((((x0 - (3472328296227680304 : Int64)) <<< ((((8 : Int32) - x1) <<< ((3 : Int32) &&& 31)) &&& 0x3f).toInt64).toUInt64 >>> ((8 : Int32) &&& 0x3f).toInt64.toUInt64).toInt64)) &&& (71777214294589695 : Int64)).toUInt64 >>> ((16 : Int32) &&& 0x3f).toInt64.toUInt64).toInt64)) &&& (281470681808895 : Int64)) * (10000 : Int64)) + ((((((((((x0 - (3472328296227680304 : Int64)) <<< ((((8 : Int32) - x1) <<< ((3 : Int32) &&& 31)) &&& 0x3f).toInt64) * (10 : Int64)) + ((((x0 - (3472328296227680304 : Int64)) <<< ((((8 : Int32) - x1) <<< ((3 : Int32) &&& 31)) &&& 0x3f).toInt64).toUInt64 >>> ((8 : Int32) &&& 0x3f).toInt64.toUInt64).toInt64)) &&& (71777214294589695 : Int64)) * (100 : Int64)) + (((((((x0 - (3472328296227680304 : Int64)) <<< ((((8 : Int32) - x1) <<< ((3 : Int32) &&& 31)) &&& 0x3f).toInt64) * (10 : Int64)) + ((((x0 - (3472328296227680304 : Int64)) <<< ((((8 : Int32) - x1) <<< ((3 : Int32) &&& 31)) &&& 0x3f).toInt64).toUInt64 >>> ((8 : Int32) &&& 0x3f).toInt64.toUInt64).toInt64)) &&& (71777214294589695 : Int64)).toUInt64 >>> ((16 : Int32) &&& 0x3f).toInt64.toUInt64).toInt64)) &&& (281470681808895 : Int64)).toUInt64 >>> ((32 : Int32) &&& 0x3f).toInt64.toUInt64).toInt64)))] (fun t k => XS.ladd X0.here hx rfl (hb hby d3_52) rfl k) ?_
  refine own_go T0 m 56 #[.val (.long x0), .second, iv x1, .val (.long ((((((((x0 - (3472328296227680304 : Int64)) <<< ((((8 : Int32) - x1) <<< ((3 : Int32) &&& 31)) &&& 0x3f).toInt64) * (10 : Int64)) + ((((x0 - (3472328296227680304 : Int64)) <<< ((((8 : Int32) - x1) <<< ((3 : Int32) &&& 31)) &&& 0x3f).toInt64).toUInt64 >>> ((8 : Int32) &&& 0x3f).toInt64.toUInt64).toInt64)) &&& (71777214294589695 : Int64)) * (100 : Int64)) + (((((((x0 - (3472328296227680304 : Int64)) <<< ((((8 : Int32) - x1) <<< ((3 : Int32) &&& 31)) &&& 0x3f).toInt64) * (10 : Int64)) + ((((x0 - (3472328296227680304 : Int64)) <<< ((((8 : Int32) - x1) <<< ((3 : Int32) &&& 31)) &&& 0x3f).toInt64).toUInt64 >>> ((8 : Int32) &&& 0x3f).toInt64.toUInt64).toInt64)) &&& (71777214294589695 : Int64)).toUInt64 >>> ((16 : Int32) &&& 0x3f).toInt64.toUInt64).toInt64)) &&& (281470681808895 : Int64))), .second] [(.long 4294967295), (.long ((((((((((x0 - (3472328296227680304 : Int64)) <<< ((((8 : Int32) - x1) <<< ((3 : Int32) &&& 31)) &&& 0x3f).toInt64) * (10 : Int64)) + ((((x0 - (3472328296227680304 : Int64)) <<< ((((8 : Int32) - x1) <<< ((3 : Int32) &&& 31)) &&& 0x3f).toInt64).toUInt64 >>> ((8 : Int32) &&& 0x3f).toInt64.toUInt64).toInt64)) &&& (71777214294589695 : Int64)) * (100 : Int64)) + (((((((x0 - (3472328296227680304 : Int64)) <<< ((((8 : Int32) - x1) <<< ((3 : Int32) &&& 31)) &&& 0x3f).toInt64) * (10 : Int64)) + ((((x0 - (3472328296227680304 : Int64)) <<< ((((8 : Int32) - x1) <<< ((3 : Int32) &&& 31)) &&& 0x3f).toInt64).toUInt64 >>> ((8 : Int32) &&& 0x3f).toInt64.toUInt64).toInt64)) &&& (71777214294589695 : Int64)).toUInt64 >>> ((16 : Int32) &&& 0x3f).toInt64.toUInt64).toInt64)) &&& (281470681808895 : Int64)) * (10000 : Int64)) + ((((((((((x0 - (3472328296227680304 : Int64)) <<< ((((8 : Int32) - x1) <<< ((3 : Int32) &&& 31)) &&& 0x3f).toInt64) * (10 : Int64)) + ((((x0 - (3472328296227680304 : Int64)) <<< ((((8 : Int32) - x1) <<< ((3 : Int32) &&& 31)) &&& 0x3f).toInt64).toUInt64 >>> ((8 : Int32) &&& 0x3f).toInt64.toUInt64).toInt64)) &&& (71777214294589695 : Int64)) * (100 : Int64)) + (((((((x0 - (3472328296227680304 : Int64)) <<< ((((8 : Int32) - x1) <<< ((3 : Int32) &&& 31)) &&& 0x3f).toInt64) * (10 : Int64)) + ((((x0 - (3472328296227680304 : Int64)) <<< ((((8 : Int32) - x1) <<< ((3 : Int32) &&& 31)) &&& 0x3f).toInt64).toUInt64 >>> ((8 : Int32) &&& 0x3f).toInt64.toUInt64).toInt64)) &&& (71777214294589695 : Int64)).toUInt64 >>> ((16 : Int32) &&& 0x3f).toInt64.toUInt64).toInt64)) &&& (281470681808895 : Int64)).toUInt64 >>> ((32 : Int32) &&& 0x3f).toInt64.toUInt64).toInt64)))] (X0.ldc2Long hx hown (mvT hZ (own_w hw 19 rfl)) (g := (mkF m 53 #[.val (.long x0), .second, iv x1, .val (.long ((((((((x0 - (3472328296227680304 : Int64)) <<< ((((8 : Int32) - x1) <<< ((3 : Int32) &&& 31)) &&& 0x3f).toInt64) * (10 : Int64)) + ((((x0 - (3472328296227680304 : Int64)) <<< ((((8 : Int32) - x1) <<< ((3 : Int32) &&& 31)) &&& 0x3f).toInt64).toUInt64 >>> ((8 : Int32) &&& 0x3f).toInt64.toUInt64).toInt64)) &&& (71777214294589695 : Int64)) * (100 : Int64)) + (((((((x0 - (3472328296227680304 : Int64)) <<< ((((8 : Int32) - x1) <<< ((3 : Int32) &&& 31)) &&& 0x3f).toInt64) * (10 : Int64)) + ((((x0 - (3472328296227680304 : Int64)) <<< ((((8 : Int32) - x1) <<< ((3 : Int32) &&& 31)) &&& 0x3f).toInt64).toUInt64 >>> ((8 : Int32) &&& 0x3f).toInt64.toUInt64).toInt64)) &&& (71777214294589695 : Int64)).toUInt64 >>> ((16 : Int32) &&& 0x3f).toInt64.toUInt64).toInt64)) &&& (281470681808895 : Int64))), .second] [(.long ((((((((((x0 - (3472328296227680304 : Int64)) <<< ((((8 : Int32) - x1) <<< ((3 : Int32) &&& 31)) &&& 0x3f).toInt64) * (10 : Int64)) + ((((x0 - (3472328296227680304 : Int64)) <<< ((((8 : Int32) - x1) <<< ((3 : Int32) &&& 31)) &&& 0x3f).toInt64).toUInt64 >>> ((8 : Int32) &&& 0x3f).toInt64.toUInt64).toInt64)) &&& (71777214294589695 : Int64)) * (100 : Int64)) + (((((((x0 - (3472328296227680304 : Int64)) <<< ((((8 : Int32) - x1) <<< ((3 : Int32) &&& 31)) &&& 0x3f).toInt64) * (10 : Int64)) + ((((x0 - (3472328296227680304 : Int64)) <<< ((((8 : Int32) - x1) <<< ((3 : Int32) &&& 31)) &&& 0x3f).toInt64).toUInt64 >>> ((8 : Int32) &&& 0x3f).toInt64.toUInt64).toInt64)) &&& (71777214294589695 : Int64)).toUInt64 >>> ((16 : Int32) &&& 0x3f).toInt64.toUInt64).toInt64)) &&& (281470681808895 : Int64)) * (10000 : Int64)) + ((((((((((x0 - (3472328296227680304 : Int64)) <<< ((((8 : Int32) - x1) <<< ((3 : Int32) &&& 31)) &&& 0x3f).toInt64) * (10 : Int64)) + ((((x0 - (3472328296227680304 : Int64)) <<< ((((8 : Int32) - x1) <<< ((3 : Int32) &&& 31)) &&& 0x3f).toInt64).toUInt64 >>> ((8 : Int32) &&& 0x3f).toInt64.toUInt64).toInt64)) &&& (71777214294589695 : Int64)) * (100 : Int64)) + (((((((x0 - (3472328296227680304 : Int64)) <<< ((((8 : Int32) - x1) <<< ((3 : Int32) &&& 31)) &&& 0x3f).toInt64) * (10 : Int64)) + ((((x0 - (3472328296227680304 : Int64)) <<< ((((8 : Int32) - x1) <<< ((3 : Int32) &&& 31)) &&& 0x3f).toInt64).toUInt64 >>> ((8 : Int32) &&& 0x3f).toInt64.toUInt64).toInt64)) &&& (71777214294589695 : Int64)).toUInt64 >>> ((16 : Int32) &&& 0x3f).toInt64.toUInt64).toInt64)) &&& (281470681808895 : Int64)).toUInt64 >>> ((32 : Int32) &&& 0x3f).toInt64.toUInt64).toInt64)))])) rfl (hb hby d3_53)) ?_
  refine own_go T0 m 57 #[.val (.long x0), .second, iv x1, .val (.long ((((((((x0 - (3472328296227680304 : Int64)) <<< ((((8 : Int32) - x1) <<< ((3 : Int32) &&& 31)) &&& 0x3f).toInt64) * (10 : Int64)) + ((((x0 - (3472328296227680304 : Int64)) <<< ((((8 : Int32) - x1) <<< ((3 : Int32) &&& 31)) &&& 0x3f).toInt64).toUInt64 >>> ((8 : Int32) &&& 0x3f).toInt64.toUInt64).toInt64)) &&& (71777214294589695 : Int64)) * (100 : Int64)) + (((((((x0 - (3472328296227680304 : Int64)) <<< ((((8 : Int32) - x1) <<< ((3 : Int32) &&& 31)) &&& 0x3f).toInt64) * (10 : Int64)) + ((((x0 - (3472328296227680304 : Int64)) <<< ((((8 : Int32) - x1) <<< ((3 : Int32) &&& 31)) &&& 0x3f).toInt64).toUInt64 >>> ((8 : Int32) &&& 0x3f).toInt64.toUInt64).toInt64)) &&& (71777214294589695 : Int64)).toUInt64 >>> ((16 : Int32) &&& 0x3f).toInt64.toUInt64).toInt64)) &&& (281470681808895 : Int64))), .second] [(.long (((((((((((x0 - (3472328296227680304 : Int64)) <<< ((((8 : Int32) - x1) <<< ((3 : Int32) &&& 31)) &&& 0x3f).toInt64) * (10 : Int64)) + ((((x0 - (3472328296227680304 : Int64)) <<< ((((8 : Int32) - x1) <<< ((3 : Int32) &&& 31)) &&& 0x3f).toInt64).toUInt64 >>> ((8 : Int32) &&& 0x3f).toInt64.toUInt64).toInt64)) &&& (71777214294589695 : Int64)) * (100 : Int64)) + (((((((x0 - (3472328296227680304 : Int64)) <<< ((((8 : Int32) - x1) <<< ((3 : Int32) &&& 31)) &&& 0x3f).toInt64) * (10 : Int64)) + ((((x0 - (3472328296227680304 : Int64)) <<< ((((8 : Int32) - x1) <<< ((3 : Int32) &&& 31)) &&& 0x3f).toInt64).toUInt64 >>> ((8 : Int32) &&& 0x3f).toInt64.toUInt64).toInt64)) &&& (71777214294589695 : Int64)).toUInt64 >>> ((16 : Int32) &&& 0x3f).toInt64.toUInt64).toInt64)) &&& (281470681808895 : Int64)) * (10000 : Int64)) + ((((((((((x0 - (3472328296227680304 : Int64)) <<< ((((8 : Int32) - x1) <<< ((3 : Int32) &&& 31)) &&& 0x3f).toInt64) * (10 : Int64)) + ((((x0 - (3472328296227680304 : Int64)) <<< ((((8 : Int32) - x1) <<< ((3 : Int32) &&& 31)) &&& 0x3f).toInt64).toUInt64 >>> ((8 : Int32) &&& 0x3f).toInt64.toUInt64).toInt64)) &&& (71777214294589695 : Int64)) * (100 : Int64)) + (((((((x0 - (3472328296227680304 : Int64)) <<< ((((8 : Int32) - x1) <<< ((3 : Int32) &&& 31)) &&& 0x3f).toInt64) * (10 : Int64)) + ((((x0 - (3472328296227680304 : Int64)) <<< ((((8 : Int32) - x1) <<< ((3 : Int32) &&& 31)) &&& 0x3f).toInt64).toUInt64 >>> ((8 : Int32) &&& 0x3f).toInt64.toUInt64).toInt64)) &&& (71777214294589695 : Int64)).toUInt64 >>> ((16 : Int32) &&& 0x3f).toInt64.toUInt64).toInt64)) &&& (281470681808895 : Int64)).toUInt64 >>> ((32 : Int32) &&& 0x3f).toInt64.toUInt64).toInt64)) &&& (4294967295 : Int64)))] (fun t k => XS.land X0.here hx rfl (hb hby d3_56) rfl k) ?_
  refine own_retJ X0 hx hlk hret (hb hby d3_57) (by decide) (by decide) ?_
  exact ⟨rfl, e0, rfl⟩
theorem pf_org_orderloom_fix_ByteWordsNumberPinLaw_law__JJI_Z : plainFor (⟨"org/orderloom/fix/ByteWordsNumberPinLaw", "law", "(JJI)Z"⟩ : MethodName) = true := by first | exact plainFor_of_name (by first | (simp [plainName, overriddenIn]; done) | decide +kernel) | exact Jvm.Free.JP.mathPlain rfl (by decide +kernel) | decide +kernel
theorem ef_rm0 (m : MethodId) (q0 : Int64) (q1 : Int64) (q2 : Int32) : entryFrame m #[(.long q0), (.long q1), (.int q2)] maxLocals = mkF m 0 #[.val (.long q0), .second, .val (.long q1), .second, iv q2, .unset, .unset, .unset, .unset, .unset, .unset, .unset, .unset, .unset, .unset, .unset, .unset, .unset, .unset, .unset, .unset, .unset] [] := by first | (simp [entryFrame, mkF, argsToLocals, Value.category, maxLocals]; done) | rfl
set_option maxRecDepth 65536 in
set_option maxHeartbeats 40000000 in
theorem rm0 (l : Launch) (Z : State) (a0 : Array Value) (hw : ∀ d ∈ tables_1, d.before a0 Z = true) (ws : List Jvm.Cond) (x0 : Int64) (x1 : Int64) (x2 : Int32) (h0 : Heap) (n0 : Nat) (Z0 : n0 ≤ h0.size) :
    OwnC l Z x code maxLocals ret ws room_1 #[(.long x0), (.long x1), (.int x2)] h0 (fun v h L => v = some (.int 1) ∧ Fr n0 L) := by
  refine own_entry pf_org_orderloom_fix_ByteWordsNumberPinLaw_law__JJI_Z (fun m => ef_rm0 m x0 x1 x2) ?_
  intro p e s m below meth c T0 X0 hC e0
  obtain ⟨hx, hby, hml, hown, hnm, hret, hlk, hZ⟩ := hC
  have hml : c.maxLocals = 22 := hml
  have N0 := Fr.nil n0
  refine own_go T0 m 2 #[.val (.long x0), .second, .val (.long x1), .second, iv x2, .unset, .unset, .unset, .unset, .unset, .unset, .unset, .unset, .unset, .unset, .unset, .unset, .unset, .unset, .unset, .unset, .unset] [(.int x2)] (fun t k => XS.iload X0.here hx rfl (hb hby at_0) rfl k) ?_
  refine own_go T0 m 4 #[.val (.long x0), .second, .val (.long x1), .second, iv x2, .unset, .unset, .unset, .unset, .unset, .unset, .unset, .unset, .unset, .unset, .unset, .unset, .unset, .unset, .unset, .unset, .unset] [(.int 7), (.int x2)] (fun t k => XS.bipush X0.here hx rfl (hb hby at_2) k) ?_
  refine own_go T0 m 5 #[.val (.long x0), .second, .val (.long x1), .second, iv x2, .unset, .unset, .unset, .unset, .unset, .unset, .unset, .unset, .unset, .unset, .unset, .unset, .unset, .unset, .unset, .unset, .unset] [(.int (x2 &&& (7 : Int32)))] (fun t k => XS.iand X0.here hx rfl (hb hby at_4) rfl k) ?_
  refine own_go T0 m 6 #[.val (.long x0), .second, .val (.long x1), .second, iv x2, .unset, .unset, .unset, .unset, .unset, .unset, .unset, .unset, .unset, .unset, .unset, .unset, .unset, .unset, .unset, .unset, .unset] [(.int 1), (.int (x2 &&& (7 : Int32)))] (fun t k => XS.iconst X0.here hx rfl (hb hby at_5) k) ?_
  refine own_go T0 m 7 #[.val (.long x0), .second, .val (.long x1), .second, iv x2, .unset, .unset, .unset, .unset, .unset, .unset, .unset, .unset, .unset, .unset, .unset, .unset, .unset, .unset, .unset, .unset, .unset] [(.int ((x2 &&& (7 : Int32)) + (1 : Int32)))] (fun t k => XS.iadd X0.here hx rfl (hb hby at_6) rfl k) ?_
  refine own_go T0 m 9 #[.val (.long x0), .second, .val (.long x1), .second, iv x2, iv ((x2 &&& (7 : Int32)) + (1 : Int32)), .unset, .unset, .unset, .unset, .unset, .unset, .unset, .unset, .unset, .unset, .unset, .unset, .unset, .unset, .unset, .unset] [] (fun t k => XS.istore X0.here hx rfl (hb hby at_7) rfl rfl k) ?_
  have hn5 := own_n18 x2
  obtain ⟨n5, hd_n5⟩ : ∃ z, z = ((x2 &&& (7 : Int32)) + (1 : Int32)) := ⟨_, rfl⟩
  rw [← hd_n5] at hn5 ⊢
  refine own_go T0 m 10 #[.val (.long x0), .second, .val (.long x1), .second, iv x2, iv n5, .unset, .unset, .unset, .unset, .unset, .unset, .unset, .unset, .unset, .unset, .unset, .unset, .unset, .unset, .unset, .unset] [(.long x0)] (fun t k => XS.lloadN X0.here hx rfl (hb hby at_9) rfl k) ?_
  refine own_go T0 m 11 #[.val (.long x0), .second, .val (.long x1), .second, iv x2, iv n5, .unset, .unset, .unset, .unset, .unset, .unset, .unset, .unset, .unset, .unset, .unset, .unset, .unset, .unset, .unset, .unset] [(.int 0), (.long x0)] (fun t k => XS.iconst X0.here hx rfl (hb hby at_10) k) ?_
  obtain ⟨_, T1, L1, X1, ⟨rfl, e1, rfl⟩, st1⟩ := own_static X0 hx hZ (y := (⟨"org/orderloom/fix/ByteWordsNumberPinLaw", "digit", "(JI)I"⟩ : MethodName)) hown (own_w hw 0 rfl) (own_w hw 1 rfl) (own_w hw 2 rfl) (own_w hw 3 rfl) (by decide) (rm1 l Z a0 hw [] x0 (0 : Int32) h0) e0 0 (argsL := [(.long x0), (.int 0)]) (rest := []) (Ls := #[.val (.long x0), .second, .val (.long x1), .second, iv x2, iv n5, .unset, .unset, .unset, .unset, .unset, .unset, .unset, .unset, .unset, .unset, .unset, .unset, .unset, .unset, .unset, .unset]) (by rw [hml]; rfl) (lenOf pd__JI_I rfl) rfl rfl (Nat.le_of_eq rfl) (hb hby at_11) (by decide) (by decide) (by decide) (by decide)
  replace X1 := own_nil X1
  refine own_go T1 m 14 #[.val (.long x0), .second, .val (.long x1), .second, iv x2, iv n5, .unset, .unset, .unset, .unset, .unset, .unset, .unset, .unset, .unset, .unset, .unset, .unset, .unset, .unset, .unset, .unset] [(.int (own_dig x0 (0 : Int32)))] (st1) ?_
  refine own_go T1 m 16 #[.val (.long x0), .second, .val (.long x1), .second, iv x2, iv n5, iv (own_dig x0 (0 : Int32)), .unset, .unset, .unset, .unset, .unset, .unset, .unset, .unset, .unset, .unset, .unset, .unset, .unset, .unset, .unset] [] (fun t k => XS.istore X1.here hx rfl (hb hby at_14) rfl rfl k) ?_
  have hb0 := own_digb x0 0
  obtain ⟨d0, hd_d0⟩ : ∃ z, z = (own_dig x0 (0 : Int32)) := ⟨_, rfl⟩
  rw [← hd_d0] at hb0 ⊢
  refine own_go T1 m 17 #[.val (.long x0), .second, .val (.long x1), .second, iv x2, iv n5, iv d0, .unset, .unset, .unset, .unset, .unset, .unset, .unset, .unset, .unset, .unset, .unset, .unset, .unset, .unset, .unset] [(.long x0)] (fun t k => XS.lloadN X1.here hx rfl (hb hby at_16) rfl k) ?_
  refine own_go T1 m 18 #[.val (.long x0), .second, .val (.long x1), .second, iv x2, iv n5, iv d0, .unset, .unset, .unset, .unset, .unset, .unset, .unset, .unset, .unset, .unset, .unset, .unset, .unset, .unset, .unset] [(.int 1), (.long x0)] (fun t k => XS.iconst X1.here hx rfl (hb hby at_17) k) ?_
  obtain ⟨_, T2, L2, X2, ⟨rfl, e2, rfl⟩, st2⟩ := own_static X1 hx hZ (y := (⟨"org/orderloom/fix/ByteWordsNumberPinLaw", "digit", "(JI)I"⟩ : MethodName)) hown (own_w hw 0 rfl) (own_w hw 1 rfl) (own_w hw 2 rfl) (own_w hw 3 rfl) (by decide) (rm1 l Z a0 hw [] x0 (1 : Int32) h0) e1 0 (argsL := [(.long x0), (.int 1)]) (rest := []) (Ls := #[.val (.long x0), .second, .val (.long x1), .second, iv x2, iv n5, iv d0, .unset, .unset, .unset, .unset, .unset, .unset, .unset, .unset, .unset, .unset, .unset, .unset, .unset, .unset, .unset]) (by rw [hml]; rfl) (lenOf pd__JI_I rfl) rfl rfl (Nat.le_of_eq rfl) (hb hby at_18) (by decide) (by decide) (by decide) (by decide)
  replace X2 := own_nil X2
  refine own_go T2 m 21 #[.val (.long x0), .second, .val (.long x1), .second, iv x2, iv n5, iv d0, .unset, .unset, .unset, .unset, .unset, .unset, .unset, .unset, .unset, .unset, .unset, .unset, .unset, .unset, .unset] [(.int (own_dig x0 (1 : Int32)))] (st2) ?_
  refine own_go T2 m 23 #[.val (.long x0), .second, .val (.long x1), .second, iv x2, iv n5, iv d0, iv (own_dig x0 (1 : Int32)), .unset, .unset, .unset, .unset, .unset, .unset, .unset, .unset, .unset, .unset, .unset, .unset, .unset, .unset] [] (fun t k => XS.istore X2.here hx rfl (hb hby at_21) rfl rfl k) ?_
  have hb1 := own_digb x0 1
  obtain ⟨d1, hd_d1⟩ : ∃ z, z = (own_dig x0 (1 : Int32)) := ⟨_, rfl⟩
  rw [← hd_d1] at hb1 ⊢
  refine own_go T2 m 24 #[.val (.long x0), .second, .val (.long x1), .second, iv x2, iv n5, iv d0, iv d1, .unset, .unset, .unset, .unset, .unset, .unset, .unset, .unset, .unset, .unset, .unset, .unset, .unset, .unset] [(.long x0)] (fun t k => XS.lloadN X2.here hx rfl (hb hby at_23) rfl k) ?_
  refine own_go T2 m 25 #[.val (.long x0), .second, .val (.long x1), .second, iv x2, iv n5, iv d0, iv d1, .unset, .unset, .unset, .unset, .unset, .unset, .unset, .unset, .unset, .unset, .unset, .unset, .unset, .unset] [(.int 2), (.long x0)] (fun t k => XS.iconst X2.here hx rfl (hb hby at_24) k) ?_
  obtain ⟨_, T3, L3, X3, ⟨rfl, e3, rfl⟩, st3⟩ := own_static X2 hx hZ (y := (⟨"org/orderloom/fix/ByteWordsNumberPinLaw", "digit", "(JI)I"⟩ : MethodName)) hown (own_w hw 0 rfl) (own_w hw 1 rfl) (own_w hw 2 rfl) (own_w hw 3 rfl) (by decide) (rm1 l Z a0 hw [] x0 (2 : Int32) h0) e2 0 (argsL := [(.long x0), (.int 2)]) (rest := []) (Ls := #[.val (.long x0), .second, .val (.long x1), .second, iv x2, iv n5, iv d0, iv d1, .unset, .unset, .unset, .unset, .unset, .unset, .unset, .unset, .unset, .unset, .unset, .unset, .unset, .unset]) (by rw [hml]; rfl) (lenOf pd__JI_I rfl) rfl rfl (Nat.le_of_eq rfl) (hb hby at_25) (by decide) (by decide) (by decide) (by decide)
  replace X3 := own_nil X3
  refine own_go T3 m 28 #[.val (.long x0), .second, .val (.long x1), .second, iv x2, iv n5, iv d0, iv d1, .unset, .unset, .unset, .unset, .unset, .unset, .unset, .unset, .unset, .unset, .unset, .unset, .unset, .unset] [(.int (own_dig x0 (2 : Int32)))] (st3) ?_
  refine own_go T3 m 30 #[.val (.long x0), .second, .val (.long x1), .second, iv x2, iv n5, iv d0, iv d1, iv (own_dig x0 (2 : Int32)), .unset, .unset, .unset, .unset, .unset, .unset, .unset, .unset, .unset, .unset, .unset, .unset, .unset] [] (fun t k => XS.istore X3.here hx rfl (hb hby at_28) rfl rfl k) ?_
  have hb2 := own_digb x0 2
  obtain ⟨d2, hd_d2⟩ : ∃ z, z = (own_dig x0 (2 : Int32)) := ⟨_, rfl⟩
  rw [← hd_d2] at hb2 ⊢
  refine own_go T3 m 31 #[.val (.long x0), .second, .val (.long x1), .second, iv x2, iv n5, iv d0, iv d1, iv d2, .unset, .unset, .unset, .unset, .unset, .unset, .unset, .unset, .unset, .unset, .unset, .unset, .unset] [(.long x0)] (fun t k => XS.lloadN X3.here hx rfl (hb hby at_30) rfl k) ?_
  refine own_go T3 m 32 #[.val (.long x0), .second, .val (.long x1), .second, iv x2, iv n5, iv d0, iv d1, iv d2, .unset, .unset, .unset, .unset, .unset, .unset, .unset, .unset, .unset, .unset, .unset, .unset, .unset] [(.int 3), (.long x0)] (fun t k => XS.iconst X3.here hx rfl (hb hby at_31) k) ?_
  obtain ⟨_, T4, L4, X4, ⟨rfl, e4, rfl⟩, st4⟩ := own_static X3 hx hZ (y := (⟨"org/orderloom/fix/ByteWordsNumberPinLaw", "digit", "(JI)I"⟩ : MethodName)) hown (own_w hw 0 rfl) (own_w hw 1 rfl) (own_w hw 2 rfl) (own_w hw 3 rfl) (by decide) (rm1 l Z a0 hw [] x0 (3 : Int32) h0) e3 0 (argsL := [(.long x0), (.int 3)]) (rest := []) (Ls := #[.val (.long x0), .second, .val (.long x1), .second, iv x2, iv n5, iv d0, iv d1, iv d2, .unset, .unset, .unset, .unset, .unset, .unset, .unset, .unset, .unset, .unset, .unset, .unset, .unset]) (by rw [hml]; rfl) (lenOf pd__JI_I rfl) rfl rfl (Nat.le_of_eq rfl) (hb hby at_32) (by decide) (by decide) (by decide) (by decide)
  replace X4 := own_nil X4
  refine own_go T4 m 35 #[.val (.long x0), .second, .val (.long x1), .second, iv x2, iv n5, iv d0, iv d1, iv d2, .unset, .unset, .unset, .unset, .unset, .unset, .unset, .unset, .unset, .unset, .unset, .unset, .unset] [(.int (own_dig x0 (3 : Int32)))] (st4) ?_
  refine own_go T4 m 37 #[.val (.long x0), .second, .val (.long x1), .second, iv x2, iv n5, iv d0, iv d1, iv d2, iv (own_dig x0 (3 : Int32)), .unset, .unset, .unset, .unset, .unset, .unset, .unset, .unset, .unset, .unset, .unset, .unset] [] (fun t k => XS.istore X4.here hx rfl (hb hby at_35) rfl rfl k) ?_
  have hb3 := own_digb x0 3
  obtain ⟨d3, hd_d3⟩ : ∃ z, z = (own_dig x0 (3 : Int32)) := ⟨_, rfl⟩
  rw [← hd_d3] at hb3 ⊢
  refine own_go T4 m 38 #[.val (.long x0), .second, .val (.long x1), .second, iv x2, iv n5, iv d0, iv d1, iv d2, iv d3, .unset, .unset, .unset, .unset, .unset, .unset, .unset, .unset, .unset, .unset, .unset, .unset] [(.long x0)] (fun t k => XS.lloadN X4.here hx rfl (hb hby at_37) rfl k) ?_
  refine own_go T4 m 39 #[.val (.long x0), .second, .val (.long x1), .second, iv x2, iv n5, iv d0, iv d1, iv d2, iv d3, .unset, .unset, .unset, .unset, .unset, .unset, .unset, .unset, .unset, .unset, .unset, .unset] [(.int 4), (.long x0)] (fun t k => XS.iconst X4.here hx rfl (hb hby at_38) k) ?_
  obtain ⟨_, T5, L5, X5, ⟨rfl, e5, rfl⟩, st5⟩ := own_static X4 hx hZ (y := (⟨"org/orderloom/fix/ByteWordsNumberPinLaw", "digit", "(JI)I"⟩ : MethodName)) hown (own_w hw 0 rfl) (own_w hw 1 rfl) (own_w hw 2 rfl) (own_w hw 3 rfl) (by decide) (rm1 l Z a0 hw [] x0 (4 : Int32) h0) e4 0 (argsL := [(.long x0), (.int 4)]) (rest := []) (Ls := #[.val (.long x0), .second, .val (.long x1), .second, iv x2, iv n5, iv d0, iv d1, iv d2, iv d3, .unset, .unset, .unset, .unset, .unset, .unset, .unset, .unset, .unset, .unset, .unset, .unset]) (by rw [hml]; rfl) (lenOf pd__JI_I rfl) rfl rfl (Nat.le_of_eq rfl) (hb hby at_39) (by decide) (by decide) (by decide) (by decide)
  replace X5 := own_nil X5
  refine own_go T5 m 42 #[.val (.long x0), .second, .val (.long x1), .second, iv x2, iv n5, iv d0, iv d1, iv d2, iv d3, .unset, .unset, .unset, .unset, .unset, .unset, .unset, .unset, .unset, .unset, .unset, .unset] [(.int (own_dig x0 (4 : Int32)))] (st5) ?_
  refine own_go T5 m 44 #[.val (.long x0), .second, .val (.long x1), .second, iv x2, iv n5, iv d0, iv d1, iv d2, iv d3, iv (own_dig x0 (4 : Int32)), .unset, .unset, .unset, .unset, .unset, .unset, .unset, .unset, .unset, .unset, .unset] [] (fun t k => XS.istore X5.here hx rfl (hb hby at_42) rfl rfl k) ?_
  have hb4 := own_digb x0 4
  obtain ⟨d4, hd_d4⟩ : ∃ z, z = (own_dig x0 (4 : Int32)) := ⟨_, rfl⟩
  rw [← hd_d4] at hb4 ⊢
  refine own_go T5 m 45 #[.val (.long x0), .second, .val (.long x1), .second, iv x2, iv n5, iv d0, iv d1, iv d2, iv d3, iv d4, .unset, .unset, .unset, .unset, .unset, .unset, .unset, .unset, .unset, .unset, .unset] [(.long x0)] (fun t k => XS.lloadN X5.here hx rfl (hb hby at_44) rfl k) ?_
  refine own_go T5 m 46 #[.val (.long x0), .second, .val (.long x1), .second, iv x2, iv n5, iv d0, iv d1, iv d2, iv d3, iv d4, .unset, .unset, .unset, .unset, .unset, .unset, .unset, .unset, .unset, .unset, .unset] [(.int 5), (.long x0)] (fun t k => XS.iconst X5.here hx rfl (hb hby at_45) k) ?_
  obtain ⟨_, T6, L6, X6, ⟨rfl, e6, rfl⟩, st6⟩ := own_static X5 hx hZ (y := (⟨"org/orderloom/fix/ByteWordsNumberPinLaw", "digit", "(JI)I"⟩ : MethodName)) hown (own_w hw 0 rfl) (own_w hw 1 rfl) (own_w hw 2 rfl) (own_w hw 3 rfl) (by decide) (rm1 l Z a0 hw [] x0 (5 : Int32) h0) e5 0 (argsL := [(.long x0), (.int 5)]) (rest := []) (Ls := #[.val (.long x0), .second, .val (.long x1), .second, iv x2, iv n5, iv d0, iv d1, iv d2, iv d3, iv d4, .unset, .unset, .unset, .unset, .unset, .unset, .unset, .unset, .unset, .unset, .unset]) (by rw [hml]; rfl) (lenOf pd__JI_I rfl) rfl rfl (Nat.le_of_eq rfl) (hb hby at_46) (by decide) (by decide) (by decide) (by decide)
  replace X6 := own_nil X6
  refine own_go T6 m 49 #[.val (.long x0), .second, .val (.long x1), .second, iv x2, iv n5, iv d0, iv d1, iv d2, iv d3, iv d4, .unset, .unset, .unset, .unset, .unset, .unset, .unset, .unset, .unset, .unset, .unset] [(.int (own_dig x0 (5 : Int32)))] (st6) ?_
  refine own_go T6 m 51 #[.val (.long x0), .second, .val (.long x1), .second, iv x2, iv n5, iv d0, iv d1, iv d2, iv d3, iv d4, iv (own_dig x0 (5 : Int32)), .unset, .unset, .unset, .unset, .unset, .unset, .unset, .unset, .unset, .unset] [] (fun t k => XS.istore X6.here hx rfl (hb hby at_49) rfl rfl k) ?_
  have hb5 := own_digb x0 5
  obtain ⟨d5, hd_d5⟩ : ∃ z, z = (own_dig x0 (5 : Int32)) := ⟨_, rfl⟩
  rw [← hd_d5] at hb5 ⊢
  refine own_go T6 m 52 #[.val (.long x0), .second, .val (.long x1), .second, iv x2, iv n5, iv d0, iv d1, iv d2, iv d3, iv d4, iv d5, .unset, .unset, .unset, .unset, .unset, .unset, .unset, .unset, .unset, .unset] [(.long x0)] (fun t k => XS.lloadN X6.here hx rfl (hb hby at_51) rfl k) ?_
  refine own_go T6 m 54 #[.val (.long x0), .second, .val (.long x1), .second, iv x2, iv n5, iv d0, iv d1, iv d2, iv d3, iv d4, iv d5, .unset, .unset, .unset, .unset, .unset, .unset, .unset, .unset, .unset, .unset] [(.int 6), (.long x0)] (fun t k => XS.bipush X6.here hx rfl (hb hby at_52) k) ?_
  obtain ⟨_, T7, L7, X7, ⟨rfl, e7, rfl⟩, st7⟩ := own_static X6 hx hZ (y := (⟨"org/orderloom/fix/ByteWordsNumberPinLaw", "digit", "(JI)I"⟩ : MethodName)) hown (own_w hw 0 rfl) (own_w hw 1 rfl) (own_w hw 2 rfl) (own_w hw 3 rfl) (by decide) (rm1 l Z a0 hw [] x0 (6 : Int32) h0) e6 0 (argsL := [(.long x0), (.int 6)]) (rest := []) (Ls := #[.val (.long x0), .second, .val (.long x1), .second, iv x2, iv n5, iv d0, iv d1, iv d2, iv d3, iv d4, iv d5, .unset, .unset, .unset, .unset, .unset, .unset, .unset, .unset, .unset, .unset]) (by rw [hml]; rfl) (lenOf pd__JI_I rfl) rfl rfl (Nat.le_of_eq rfl) (hb hby at_54) (by decide) (by decide) (by decide) (by decide)
  replace X7 := own_nil X7
  refine own_go T7 m 57 #[.val (.long x0), .second, .val (.long x1), .second, iv x2, iv n5, iv d0, iv d1, iv d2, iv d3, iv d4, iv d5, .unset, .unset, .unset, .unset, .unset, .unset, .unset, .unset, .unset, .unset] [(.int (own_dig x0 (6 : Int32)))] (st7) ?_
  refine own_go T7 m 59 #[.val (.long x0), .second, .val (.long x1), .second, iv x2, iv n5, iv d0, iv d1, iv d2, iv d3, iv d4, iv d5, iv (own_dig x0 (6 : Int32)), .unset, .unset, .unset, .unset, .unset, .unset, .unset, .unset, .unset] [] (fun t k => XS.istore X7.here hx rfl (hb hby at_57) rfl rfl k) ?_
  have hb6 := own_digb x0 6
  obtain ⟨d6, hd_d6⟩ : ∃ z, z = (own_dig x0 (6 : Int32)) := ⟨_, rfl⟩
  rw [← hd_d6] at hb6 ⊢
  refine own_go T7 m 60 #[.val (.long x0), .second, .val (.long x1), .second, iv x2, iv n5, iv d0, iv d1, iv d2, iv d3, iv d4, iv d5, iv d6, .unset, .unset, .unset, .unset, .unset, .unset, .unset, .unset, .unset] [(.long x0)] (fun t k => XS.lloadN X7.here hx rfl (hb hby at_59) rfl k) ?_
  refine own_go T7 m 62 #[.val (.long x0), .second, .val (.long x1), .second, iv x2, iv n5, iv d0, iv d1, iv d2, iv d3, iv d4, iv d5, iv d6, .unset, .unset, .unset, .unset, .unset, .unset, .unset, .unset, .unset] [(.int 7), (.long x0)] (fun t k => XS.bipush X7.here hx rfl (hb hby at_60) k) ?_
  obtain ⟨_, T8, L8, X8, ⟨rfl, e8, rfl⟩, st8⟩ := own_static X7 hx hZ (y := (⟨"org/orderloom/fix/ByteWordsNumberPinLaw", "digit", "(JI)I"⟩ : MethodName)) hown (own_w hw 0 rfl) (own_w hw 1 rfl) (own_w hw 2 rfl) (own_w hw 3 rfl) (by decide) (rm1 l Z a0 hw [] x0 (7 : Int32) h0) e7 0 (argsL := [(.long x0), (.int 7)]) (rest := []) (Ls := #[.val (.long x0), .second, .val (.long x1), .second, iv x2, iv n5, iv d0, iv d1, iv d2, iv d3, iv d4, iv d5, iv d6, .unset, .unset, .unset, .unset, .unset, .unset, .unset, .unset, .unset]) (by rw [hml]; rfl) (lenOf pd__JI_I rfl) rfl rfl (Nat.le_of_eq rfl) (hb hby at_62) (by decide) (by decide) (by decide) (by decide)
  replace X8 := own_nil X8
  refine own_go T8 m 65 #[.val (.long x0), .second, .val (.long x1), .second, iv x2, iv n5, iv d0, iv d1, iv d2, iv d3, iv d4, iv d5, iv d6, .unset, .unset, .unset, .unset, .unset, .unset, .unset, .unset, .unset] [(.int (own_dig x0 (7 : Int32)))] (st8) ?_
  refine own_go T8 m 67 #[.val (.long x0), .second, .val (.long x1), .second, iv x2, iv n5, iv d0, iv d1, iv d2, iv d3, iv d4, iv d5, iv d6, iv (own_dig x0 (7 : Int32)), .unset, .unset, .unset, .unset, .unset, .unset, .unset, .unset] [] (fun t k => XS.istore X8.here hx rfl (hb hby at_65) rfl rfl k) ?_
  have hb7 := own_digb x0 7
  obtain ⟨d7, hd_d7⟩ : ∃ z, z = (own_dig x0 (7 : Int32)) := ⟨_, rfl⟩
  rw [← hd_d7] at hb7 ⊢
  refine own_go T8 m 69 #[.val (.long x0), .second, .val (.long x1), .second, iv x2, iv n5, iv d0, iv d1, iv d2, iv d3, iv d4, iv d5, iv d6, iv d7, .unset, .unset, .unset, .unset, .unset, .unset, .unset, .unset] [(.int d0)] (fun t k => XS.iload X8.here hx rfl (hb hby at_67) rfl k) ?_
  refine own_go T8 m 70 #[.val (.long x0), .second, .val (.long x1), .second, iv x2, iv n5, iv d0, iv d1, iv d2, iv d3, iv d4, iv d5, iv d6, iv d7, .unset, .unset, .unset, .unset, .unset, .unset, .unset, .unset] [(.int 0), (.int d0)] (fun t k => XS.iconst X8.here hx rfl (hb hby at_69) k) ?_
  obtain ⟨_, T9, L9, X9, ⟨rfl, e9, rfl⟩, st9⟩ := own_static X8 hx hZ (y := (⟨"org/orderloom/fix/ByteWordsNumberPinLaw", "at", "(II)J"⟩ : MethodName)) hown (own_w hw 5 rfl) (own_w hw 6 rfl) (own_w hw 2 rfl) (own_w hw 7 rfl) (by decide) (rm2 l Z a0 hw [] d0 (0 : Int32) h0) e8 0 (argsL := [(.int d0), (.int 0)]) (rest := []) (Ls := #[.val (.long x0), .second, .val (.long x1), .second, iv x2, iv n5, iv d0, iv d1, iv d2, iv d3, iv d4, iv d5, iv d6, iv d7, .unset, .unset, .unset, .unset, .unset, .unset, .unset, .unset]) (by rw [hml]; rfl) (lenOf pd__II_J rfl) rfl rfl (Nat.le_of_eq rfl) (hb hby at_70) (by decide) (by decide) (by decide) (by decide)
  replace X9 := own_nil X9
  refine own_go T9 m 73 #[.val (.long x0), .second, .val (.long x1), .second, iv x2, iv n5, iv d0, iv d1, iv d2, iv d3, iv d4, iv d5, iv d6, iv d7, .unset, .unset, .unset, .unset, .unset, .unset, .unset, .unset] [(.long (own_at d0 (0 : Int32)))] (st9) ?_
  refine own_go T9 m 75 #[.val (.long x0), .second, .val (.long x1), .second, iv x2, iv n5, iv d0, iv d1, iv d2, iv d3, iv d4, iv d5, iv d6, iv d7, .unset, .unset, .unset, .unset, .unset, .unset, .unset, .unset] [(.int d1), (.long (own_at d0 (0 : Int32)))] (fun t k => XS.iload X9.here hx rfl (hb hby at_73) rfl k) ?_
  refine own_go T9 m 76 #[.val (.long x0), .second, .val (.long x1), .second, iv x2, iv n5, iv d0, iv d1, iv d2, iv d3, iv d4, iv d5, iv d6, iv d7, .unset, .unset, .unset, .unset, .unset, .unset, .unset, .unset] [(.int 1), (.int d1), (.long (own_at d0 (0 : Int32)))] (fun t k => XS.iconst X9.here hx rfl (hb hby at_75) k) ?_
  obtain ⟨_, T10, L10, X10, ⟨rfl, e10, rfl⟩, st10⟩ := own_static X9 hx hZ (y := (⟨"org/orderloom/fix/ByteWordsNumberPinLaw", "at", "(II)J"⟩ : MethodName)) hown (own_w hw 5 rfl) (own_w hw 6 rfl) (own_w hw 2 rfl) (own_w hw 7 rfl) (by decide) (rm2 l Z a0 hw [] d1 (1 : Int32) h0) e9 2 (argsL := [(.int d1), (.int 1)]) (rest := [(.long (own_at d0 (0 : Int32)))]) (Ls := #[.val (.long x0), .second, .val (.long x1), .second, iv x2, iv n5, iv d0, iv d1, iv d2, iv d3, iv d4, iv d5, iv d6, iv d7, .unset, .unset, .unset, .unset, .unset, .unset, .unset, .unset]) (by rw [hml]; rfl) (lenOf pd__II_J rfl) rfl rfl (Nat.le_of_eq rfl) (hb hby at_76) (by decide) (by decide) (by decide) (by decide)
  replace X10 := own_nil X10
  refine own_go T10 m 79 #[.val (.long x0), .second, .val (.long x1), .second, iv x2, iv n5, iv d0, iv d1, iv d2, iv d3, iv d4, iv d5, iv d6, iv d7, .unset, .unset, .unset, .unset, .unset, .unset, .unset, .unset] [(.long (own_at d1 (1 : Int32))), (.long (own_at d0 (0 : Int32)))] (st10) ?_
  refine own_go T10 m 80 #[.val (.long x0), .second, .val (.long x1), .second, iv x2, iv n5, iv d0, iv d1, iv d2, iv d3, iv d4, iv d5, iv d6, iv d7, .unset, .unset, .unset, .unset, .unset, .unset, .unset, .unset] [(.long ((own_at d0 (0 : Int32)) ||| (own_at d1 (1 : Int32))))] (fun t k => XS.lor X10.here hx rfl (hb hby at_79) rfl k) ?_
  refine own_go T10 m 82 #[.val (.long x0), .second, .val (.long x1), .second, iv x2, iv n5, iv d0, iv d1, iv d2, iv d3, iv d4, iv d5, iv d6, iv d7, .unset, .unset, .unset, .unset, .unset, .unset, .unset, .unset] [(.int d2), (.long ((own_at d0 (0 : Int32)) ||| (own_at d1 (1 : Int32))))] (fun t k => XS.iload X10.here hx rfl (hb hby at_80) rfl k) ?_
  refine own_go T10 m 83 #[.val (.long x0), .second, .val (.long x1), .second, iv x2, iv n5, iv d0, iv d1, iv d2, iv d3, iv d4, iv d5, iv d6, iv d7, .unset, .unset, .unset, .unset, .unset, .unset, .unset, .unset] [(.int 2), (.int d2), (.long ((own_at d0 (0 : Int32)) ||| (own_at d1 (1 : Int32))))] (fun t k => XS.iconst X10.here hx rfl (hb hby at_82) k) ?_
  obtain ⟨_, T11, L11, X11, ⟨rfl, e11, rfl⟩, st11⟩ := own_static X10 hx hZ (y := (⟨"org/orderloom/fix/ByteWordsNumberPinLaw", "at", "(II)J"⟩ : MethodName)) hown (own_w hw 5 rfl) (own_w hw 6 rfl) (own_w hw 2 rfl) (own_w hw 7 rfl) (by decide) (rm2 l Z a0 hw [] d2 (2 : Int32) h0) e10 2 (argsL := [(.int d2), (.int 2)]) (rest := [(.long ((own_at d0 (0 : Int32)) ||| (own_at d1 (1 : Int32))))]) (Ls := #[.val (.long x0), .second, .val (.long x1), .second, iv x2, iv n5, iv d0, iv d1, iv d2, iv d3, iv d4, iv d5, iv d6, iv d7, .unset, .unset, .unset, .unset, .unset, .unset, .unset, .unset]) (by rw [hml]; rfl) (lenOf pd__II_J rfl) rfl rfl (Nat.le_of_eq rfl) (hb hby at_83) (by decide) (by decide) (by decide) (by decide)
  replace X11 := own_nil X11
  refine own_go T11 m 86 #[.val (.long x0), .second, .val (.long x1), .second, iv x2, iv n5, iv d0, iv d1, iv d2, iv d3, iv d4, iv d5, iv d6, iv d7, .unset, .unset, .unset, .unset, .unset, .unset, .unset, .unset] [(.long (own_at d2 (2 : Int32))), (.long ((own_at d0 (0 : Int32)) ||| (own_at d1 (1 : Int32))))] (st11) ?_
  refine own_go T11 m 87 #[.val (.long x0), .second, .val (.long x1), .second, iv x2, iv n5, iv d0, iv d1, iv d2, iv d3, iv d4, iv d5, iv d6, iv d7, .unset, .unset, .unset, .unset, .unset, .unset, .unset, .unset] [(.long (((own_at d0 (0 : Int32)) ||| (own_at d1 (1 : Int32))) ||| (own_at d2 (2 : Int32))))] (fun t k => XS.lor X11.here hx rfl (hb hby at_86) rfl k) ?_
  refine own_go T11 m 89 #[.val (.long x0), .second, .val (.long x1), .second, iv x2, iv n5, iv d0, iv d1, iv d2, iv d3, iv d4, iv d5, iv d6, iv d7, .unset, .unset, .unset, .unset, .unset, .unset, .unset, .unset] [(.int d3), (.long (((own_at d0 (0 : Int32)) ||| (own_at d1 (1 : Int32))) ||| (own_at d2 (2 : Int32))))] (fun t k => XS.iload X11.here hx rfl (hb hby at_87) rfl k) ?_
  refine own_go T11 m 90 #[.val (.long x0), .second, .val (.long x1), .second, iv x2, iv n5, iv d0, iv d1, iv d2, iv d3, iv d4, iv d5, iv d6, iv d7, .unset, .unset, .unset, .unset, .unset, .unset, .unset, .unset] [(.int 3), (.int d3), (.long (((own_at d0 (0 : Int32)) ||| (own_at d1 (1 : Int32))) ||| (own_at d2 (2 : Int32))))] (fun t k => XS.iconst X11.here hx rfl (hb hby at_89) k) ?_
  obtain ⟨_, T12, L12, X12, ⟨rfl, e12, rfl⟩, st12⟩ := own_static X11 hx hZ (y := (⟨"org/orderloom/fix/ByteWordsNumberPinLaw", "at", "(II)J"⟩ : MethodName)) hown (own_w hw 5 rfl) (own_w hw 6 rfl) (own_w hw 2 rfl) (own_w hw 7 rfl) (by decide) (rm2 l Z a0 hw [] d3 (3 : Int32) h0) e11 2 (argsL := [(.int d3), (.int 3)]) (rest := [(.long (((own_at d0 (0 : Int32)) ||| (own_at d1 (1 : Int32))) ||| (own_at d2 (2 : Int32))))]) (Ls := #[.val (.long x0), .second, .val (.long x1), .second, iv x2, iv n5, iv d0, iv d1, iv d2, iv d3, iv d4, iv d5, iv d6, iv d7, .unset, .unset, .unset, .unset, .unset, .unset, .unset, .unset]) (by rw [hml]; rfl) (lenOf pd__II_J rfl) rfl rfl (Nat.le_of_eq rfl) (hb hby at_90) (by decide) (by decide) (by decide) (by decide)
  replace X12 := own_nil X12
  refine own_go T12 m 93 #[.val (.long x0), .second, .val (.long x1), .second, iv x2, iv n5, iv d0, iv d1, iv d2, iv d3, iv d4, iv d5, iv d6, iv d7, .unset, .unset, .unset, .unset, .unset, .unset, .unset, .unset] [(.long (own_at d3 (3 : Int32))), (.long (((own_at d0 (0 : Int32)) ||| (own_at d1 (1 : Int32))) ||| (own_at d2 (2 : Int32))))] (st12) ?_
  refine own_go T12 m 94 #[.val (.long x0), .second, .val (.long x1), .second, iv x2, iv n5, iv d0, iv d1, iv d2, iv d3, iv d4, iv d5, iv d6, iv d7, .unset, .unset, .unset, .unset, .unset, .unset, .unset, .unset] [(.long ((((own_at d0 (0 : Int32)) ||| (own_at d1 (1 : Int32))) ||| (own_at d2 (2 : Int32))) ||| (own_at d3 (3 : Int32))))] (fun t k => XS.lor X12.here hx rfl (hb hby at_93) rfl k) ?_
  refine own_go T12 m 96 #[.val (.long x0), .second, .val (.long x1), .second, iv x2, iv n5, iv d0, iv d1, iv d2, iv d3, iv d4, iv d5, iv d6, iv d7, .unset, .unset, .unset, .unset, .unset, .unset, .unset, .unset] [(.int d4), (.long ((((own_at d0 (0 : Int32)) ||| (own_at d1 (1 : Int32))) ||| (own_at d2 (2 : Int32))) ||| (own_at d3 (3 : Int32))))] (fun t k => XS.iload X12.here hx rfl (hb hby at_94) rfl k) ?_
  refine own_go T12 m 97 #[.val (.long x0), .second, .val (.long x1), .second, iv x2, iv n5, iv d0, iv d1, iv d2, iv d3, iv d4, iv d5, iv d6, iv d7, .unset, .unset, .unset, .unset, .unset, .unset, .unset, .unset] [(.int 4), (.int d4), (.long ((((own_at d0 (0 : Int32)) ||| (own_at d1 (1 : Int32))) ||| (own_at d2 (2 : Int32))) ||| (own_at d3 (3 : Int32))))] (fun t k => XS.iconst X12.here hx rfl (hb hby at_96) k) ?_
  obtain ⟨_, T13, L13, X13, ⟨rfl, e13, rfl⟩, st13⟩ := own_static X12 hx hZ (y := (⟨"org/orderloom/fix/ByteWordsNumberPinLaw", "at", "(II)J"⟩ : MethodName)) hown (own_w hw 5 rfl) (own_w hw 6 rfl) (own_w hw 2 rfl) (own_w hw 7 rfl) (by decide) (rm2 l Z a0 hw [] d4 (4 : Int32) h0) e12 2 (argsL := [(.int d4), (.int 4)]) (rest := [(.long ((((own_at d0 (0 : Int32)) ||| (own_at d1 (1 : Int32))) ||| (own_at d2 (2 : Int32))) ||| (own_at d3 (3 : Int32))))]) (Ls := #[.val (.long x0), .second, .val (.long x1), .second, iv x2, iv n5, iv d0, iv d1, iv d2, iv d3, iv d4, iv d5, iv d6, iv d7, .unset, .unset, .unset, .unset, .unset, .unset, .unset, .unset]) (by rw [hml]; rfl) (lenOf pd__II_J rfl) rfl rfl (Nat.le_of_eq rfl) (hb hby at_97) (by decide) (by decide) (by decide) (by decide)
  replace X13 := own_nil X13
  refine own_go T13 m 100 #[.val (.long x0), .second, .val (.long x1), .second, iv x2, iv n5, iv d0, iv d1, iv d2, iv d3, iv d4, iv d5, iv d6, iv d7, .unset, .unset, .unset, .unset, .unset, .unset, .unset, .unset] [(.long (own_at d4 (4 : Int32))), (.long ((((own_at d0 (0 : Int32)) ||| (own_at d1 (1 : Int32))) ||| (own_at d2 (2 : Int32))) ||| (own_at d3 (3 : Int32))))] (st13) ?_
  refine own_go T13 m 101 #[.val (.long x0), .second, .val (.long x1), .second, iv x2, iv n5, iv d0, iv d1, iv d2, iv d3, iv d4, iv d5, iv d6, iv d7, .unset, .unset, .unset, .unset, .unset, .unset, .unset, .unset] [(.long (((((own_at d0 (0 : Int32)) ||| (own_at d1 (1 : Int32))) ||| (own_at d2 (2 : Int32))) ||| (own_at d3 (3 : Int32))) ||| (own_at d4 (4 : Int32))))] (fun t k => XS.lor X13.here hx rfl (hb hby at_100) rfl k) ?_
  refine own_go T13 m 103 #[.val (.long x0), .second, .val (.long x1), .second, iv x2, iv n5, iv d0, iv d1, iv d2, iv d3, iv d4, iv d5, iv d6, iv d7, .unset, .unset, .unset, .unset, .unset, .unset, .unset, .unset] [(.int d5), (.long (((((own_at d0 (0 : Int32)) ||| (own_at d1 (1 : Int32))) ||| (own_at d2 (2 : Int32))) ||| (own_at d3 (3 : Int32))) ||| (own_at d4 (4 : Int32))))] (fun t k => XS.iload X13.here hx rfl (hb hby at_101) rfl k) ?_
  refine own_go T13 m 104 #[.val (.long x0), .second, .val (.long x1), .second, iv x2, iv n5, iv d0, iv d1, iv d2, iv d3, iv d4, iv d5, iv d6, iv d7, .unset, .unset, .unset, .unset, .unset, .unset, .unset, .unset] [(.int 5), (.int d5), (.long (((((own_at d0 (0 : Int32)) ||| (own_at d1 (1 : Int32))) ||| (own_at d2 (2 : Int32))) ||| (own_at d3 (3 : Int32))) ||| (own_at d4 (4 : Int32))))] (fun t k => XS.iconst X13.here hx rfl (hb hby at_103) k) ?_
  obtain ⟨_, T14, L14, X14, ⟨rfl, e14, rfl⟩, st14⟩ := own_static X13 hx hZ (y := (⟨"org/orderloom/fix/ByteWordsNumberPinLaw", "at", "(II)J"⟩ : MethodName)) hown (own_w hw 5 rfl) (own_w hw 6 rfl) (own_w hw 2 rfl) (own_w hw 7 rfl) (by decide) (rm2 l Z a0 hw [] d5 (5 : Int32) h0) e13 2 (argsL := [(.int d5), (.int 5)]) (rest := [(.long (((((own_at d0 (0 : Int32)) ||| (own_at d1 (1 : Int32))) ||| (own_at d2 (2 : Int32))) ||| (own_at d3 (3 : Int32))) ||| (own_at d4 (4 : Int32))))]) (Ls := #[.val (.long x0), .second, .val (.long x1), .second, iv x2, iv n5, iv d0, iv d1, iv d2, iv d3, iv d4, iv d5, iv d6, iv d7, .unset, .unset, .unset, .unset, .unset, .unset, .unset, .unset]) (by rw [hml]; rfl) (lenOf pd__II_J rfl) rfl rfl (Nat.le_of_eq rfl) (hb hby at_104) (by decide) (by decide) (by decide) (by decide)
  replace X14 := own_nil X14
  refine own_go T14 m 107 #[.val (.long x0), .second, .val (.long x1), .second, iv x2, iv n5, iv d0, iv d1, iv d2, iv d3, iv d4, iv d5, iv d6, iv d7, .unset, .unset, .unset, .unset, .unset, .unset, .unset, .unset] [(.long (own_at d5 (5 : Int32))), (.long (((((own_at d0 (0 : Int32)) ||| (own_at d1 (1 : Int32))) ||| (own_at d2 (2 : Int32))) ||| (own_at d3 (3 : Int32))) ||| (own_at d4 (4 : Int32))))] (st14) ?_
  refine own_go T14 m 108 #[.val (.long x0), .second, .val (.long x1), .second, iv x2, iv n5, iv d0, iv d1, iv d2, iv d3, iv d4, iv d5, iv d6, iv d7, .unset, .unset, .unset, .unset, .unset, .unset, .unset, .unset] [(.long ((((((own_at d0 (0 : Int32)) ||| (own_at d1 (1 : Int32))) ||| (own_at d2 (2 : Int32))) ||| (own_at d3 (3 : Int32))) ||| (own_at d4 (4 : Int32))) ||| (own_at d5 (5 : Int32))))] (fun t k => XS.lor X14.here hx rfl (hb hby at_107) rfl k) ?_
  refine own_go T14 m 110 #[.val (.long x0), .second, .val (.long x1), .second, iv x2, iv n5, iv d0, iv d1, iv d2, iv d3, iv d4, iv d5, iv d6, iv d7, .unset, .unset, .unset, .unset, .unset, .unset, .unset, .unset] [(.int d6), (.long ((((((own_at d0 (0 : Int32)) ||| (own_at d1 (1 : Int32))) ||| (own_at d2 (2 : Int32))) ||| (own_at d3 (3 : Int32))) ||| (own_at d4 (4 : Int32))) ||| (own_at d5 (5 : Int32))))] (fun t k => XS.iload X14.here hx rfl (hb hby at_108) rfl k) ?_
  refine own_go T14 m 112 #[.val (.long x0), .second, .val (.long x1), .second, iv x2, iv n5, iv d0, iv d1, iv d2, iv d3, iv d4, iv d5, iv d6, iv d7, .unset, .unset, .unset, .unset, .unset, .unset, .unset, .unset] [(.int 6), (.int d6), (.long ((((((own_at d0 (0 : Int32)) ||| (own_at d1 (1 : Int32))) ||| (own_at d2 (2 : Int32))) ||| (own_at d3 (3 : Int32))) ||| (own_at d4 (4 : Int32))) ||| (own_at d5 (5 : Int32))))] (fun t k => XS.bipush X14.here hx rfl (hb hby at_110) k) ?_
  obtain ⟨_, T15, L15, X15, ⟨rfl, e15, rfl⟩, st15⟩ := own_static X14 hx hZ (y := (⟨"org/orderloom/fix/ByteWordsNumberPinLaw", "at", "(II)J"⟩ : MethodName)) hown (own_w hw 5 rfl) (own_w hw 6 rfl) (own_w hw 2 rfl) (own_w hw 7 rfl) (by decide) (rm2 l Z a0 hw [] d6 (6 : Int32) h0) e14 2 (argsL := [(.int d6), (.int 6)]) (rest := [(.long ((((((own_at d0 (0 : Int32)) ||| (own_at d1 (1 : Int32))) ||| (own_at d2 (2 : Int32))) ||| (own_at d3 (3 : Int32))) ||| (own_at d4 (4 : Int32))) ||| (own_at d5 (5 : Int32))))]) (Ls := #[.val (.long x0), .second, .val (.long x1), .second, iv x2, iv n5, iv d0, iv d1, iv d2, iv d3, iv d4, iv d5, iv d6, iv d7, .unset, .unset, .unset, .unset, .unset, .unset, .unset, .unset]) (by rw [hml]; rfl) (lenOf pd__II_J rfl) rfl rfl (Nat.le_of_eq rfl) (hb hby at_112) (by decide) (by decide) (by decide) (by decide)
  replace X15 := own_nil X15
  refine own_go T15 m 115 #[.val (.long x0), .second, .val (.long x1), .second, iv x2, iv n5, iv d0, iv d1, iv d2, iv d3, iv d4, iv d5, iv d6, iv d7, .unset, .unset, .unset, .unset, .unset, .unset, .unset, .unset] [(.long (own_at d6 (6 : Int32))), (.long ((((((own_at d0 (0 : Int32)) ||| (own_at d1 (1 : Int32))) ||| (own_at d2 (2 : Int32))) ||| (own_at d3 (3 : Int32))) ||| (own_at d4 (4 : Int32))) ||| (own_at d5 (5 : Int32))))] (st15) ?_
  refine own_go T15 m 116 #[.val (.long x0), .second, .val (.long x1), .second, iv x2, iv n5, iv d0, iv d1, iv d2, iv d3, iv d4, iv d5, iv d6, iv d7, .unset, .unset, .unset, .unset, .unset, .unset, .unset, .unset] [(.long (((((((own_at d0 (0 : Int32)) ||| (own_at d1 (1 : Int32))) ||| (own_at d2 (2 : Int32))) ||| (own_at d3 (3 : Int32))) ||| (own_at d4 (4 : Int32))) ||| (own_at d5 (5 : Int32))) ||| (own_at d6 (6 : Int32))))] (fun t k => XS.lor X15.here hx rfl (hb hby at_115) rfl k) ?_
  refine own_go T15 m 118 #[.val (.long x0), .second, .val (.long x1), .second, iv x2, iv n5, iv d0, iv d1, iv d2, iv d3, iv d4, iv d5, iv d6, iv d7, .unset, .unset, .unset, .unset, .unset, .unset, .unset, .unset] [(.int d7), (.long (((((((own_at d0 (0 : Int32)) ||| (own_at d1 (1 : Int32))) ||| (own_at d2 (2 : Int32))) ||| (own_at d3 (3 : Int32))) ||| (own_at d4 (4 : Int32))) ||| (own_at d5 (5 : Int32))) ||| (own_at d6 (6 : Int32))))] (fun t k => XS.iload X15.here hx rfl (hb hby at_116) rfl k) ?_
  refine own_go T15 m 120 #[.val (.long x0), .second, .val (.long x1), .second, iv x2, iv n5, iv d0, iv d1, iv d2, iv d3, iv d4, iv d5, iv d6, iv d7, .unset, .unset, .unset, .unset, .unset, .unset, .unset, .unset] [(.int 7), (.int d7), (.long (((((((own_at d0 (0 : Int32)) ||| (own_at d1 (1 : Int32))) ||| (own_at d2 (2 : Int32))) ||| (own_at d3 (3 : Int32))) ||| (own_at d4 (4 : Int32))) ||| (own_at d5 (5 : Int32))) ||| (own_at d6 (6 : Int32))))] (fun t k => XS.bipush X15.here hx rfl (hb hby at_118) k) ?_
  obtain ⟨_, T16, L16, X16, ⟨rfl, e16, rfl⟩, st16⟩ := own_static X15 hx hZ (y := (⟨"org/orderloom/fix/ByteWordsNumberPinLaw", "at", "(II)J"⟩ : MethodName)) hown (own_w hw 5 rfl) (own_w hw 6 rfl) (own_w hw 2 rfl) (own_w hw 7 rfl) (by decide) (rm2 l Z a0 hw [] d7 (7 : Int32) h0) e15 2 (argsL := [(.int d7), (.int 7)]) (rest := [(.long (((((((own_at d0 (0 : Int32)) ||| (own_at d1 (1 : Int32))) ||| (own_at d2 (2 : Int32))) ||| (own_at d3 (3 : Int32))) ||| (own_at d4 (4 : Int32))) ||| (own_at d5 (5 : Int32))) ||| (own_at d6 (6 : Int32))))]) (Ls := #[.val (.long x0), .second, .val (.long x1), .second, iv x2, iv n5, iv d0, iv d1, iv d2, iv d3, iv d4, iv d5, iv d6, iv d7, .unset, .unset, .unset, .unset, .unset, .unset, .unset, .unset]) (by rw [hml]; rfl) (lenOf pd__II_J rfl) rfl rfl (Nat.le_of_eq rfl) (hb hby at_120) (by decide) (by decide) (by decide) (by decide)
  replace X16 := own_nil X16
  refine own_go T16 m 123 #[.val (.long x0), .second, .val (.long x1), .second, iv x2, iv n5, iv d0, iv d1, iv d2, iv d3, iv d4, iv d5, iv d6, iv d7, .unset, .unset, .unset, .unset, .unset, .unset, .unset, .unset] [(.long (own_at d7 (7 : Int32))), (.long (((((((own_at d0 (0 : Int32)) ||| (own_at d1 (1 : Int32))) ||| (own_at d2 (2 : Int32))) ||| (own_at d3 (3 : Int32))) ||| (own_at d4 (4 : Int32))) ||| (own_at d5 (5 : Int32))) ||| (own_at d6 (6 : Int32))))] (st16) ?_
  refine own_go T16 m 124 #[.val (.long x0), .second, .val (.long x1), .second, iv x2, iv n5, iv d0, iv d1, iv d2, iv d3, iv d4, iv d5, iv d6, iv d7, .unset, .unset, .unset, .unset, .unset, .unset, .unset, .unset] [(.long ((((((((own_at d0 (0 : Int32)) ||| (own_at d1 (1 : Int32))) ||| (own_at d2 (2 : Int32))) ||| (own_at d3 (3 : Int32))) ||| (own_at d4 (4 : Int32))) ||| (own_at d5 (5 : Int32))) ||| (own_at d6 (6 : Int32))) ||| (own_at d7 (7 : Int32))))] (fun t k => XS.lor X16.here hx rfl (hb hby at_123) rfl k) ?_
  refine own_go T16 m 126 #[.val (.long x0), .second, .val (.long x1), .second, iv x2, iv n5, iv d0, iv d1, iv d2, iv d3, iv d4, iv d5, iv d6, iv d7, .val (.long ((((((((own_at d0 (0 : Int32)) ||| (own_at d1 (1 : Int32))) ||| (own_at d2 (2 : Int32))) ||| (own_at d3 (3 : Int32))) ||| (own_at d4 (4 : Int32))) ||| (own_at d5 (5 : Int32))) ||| (own_at d6 (6 : Int32))) ||| (own_at d7 (7 : Int32)))), .second, .unset, .unset, .unset, .unset, .unset, .unset] [] (fun t k => XS.lstore X16.here hx rfl (hb hby at_124) rfl rfl k) ?_
  obtain ⟨dw, hd_dw⟩ : ∃ z, z = ((((((((own_at d0 (0 : Int32)) ||| (own_at d1 (1 : Int32))) ||| (own_at d2 (2 : Int32))) ||| (own_at d3 (3 : Int32))) ||| (own_at d4 (4 : Int32))) ||| (own_at d5 (5 : Int32))) ||| (own_at d6 (6 : Int32))) ||| (own_at d7 (7 : Int32))) := ⟨_, rfl⟩
  rw [← hd_dw]
  refine own_go T16 m 128 #[.val (.long x0), .second, .val (.long x1), .second, iv x2, iv n5, iv d0, iv d1, iv d2, iv d3, iv d4, iv d5, iv d6, iv d7, .val (.long dw), .second, .unset, .unset, .unset, .unset, .unset, .unset] [(.int n5)] (fun t k => XS.iload X16.here hx rfl (hb hby at_126) rfl k) ?_
  refine own_go T16 m 130 #[.val (.long x0), .second, .val (.long x1), .second, iv x2, iv n5, iv d0, iv d1, iv d2, iv d3, iv d4, iv d5, iv d6, iv d7, .val (.long dw), .second, .unset, .unset, .unset, .unset, .unset, .unset] [(.int 8), (.int n5)] (fun t k => XS.bipush X16.here hx rfl (hb hby at_128) k) ?_
  have seg149 : OwnG p.tables e below s (fun v h L => v = some (.int 1) ∧ Fr n0 L) room_1.cells room_1.slots (T16.setTop (mkF m 149 #[.val (.long x0), .second, .val (.long x1), .second, iv x2, iv n5, iv d0, iv d1, iv d2, iv d3, iv d4, iv d5, iv d6, iv d7, .val (.long dw), .second, .val (.long (own_mask n5)), .second, .unset, .unset, .unset, .unset] [])) := by
    refine own_go T16 m 151 #[.val (.long x0), .second, .val (.long x1), .second, iv x2, iv n5, iv d0, iv d1, iv d2, iv d3, iv d4, iv d5, iv d6, iv d7, .val (.long dw), .second, .val (.long (own_mask n5)), .second, .unset, .unset, .unset, .unset] [(.long dw)] (fun t k => XS.lload X16.here hx rfl (hb hby at_149) rfl k) ?_
    refine own_go T16 m 153 #[.val (.long x0), .second, .val (.long x1), .second, iv x2, iv n5, iv d0, iv d1, iv d2, iv d3, iv d4, iv d5, iv d6, iv d7, .val (.long dw), .second, .val (.long (own_mask n5)), .second, .unset, .unset, .unset, .unset] [(.long (own_mask n5)), (.long dw)] (fun t k => XS.lload X16.here hx rfl (hb hby at_151) rfl k) ?_
    refine own_go T16 m 154 #[.val (.long x0), .second, .val (.long x1), .second, iv x2, iv n5, iv d0, iv d1, iv d2, iv d3, iv d4, iv d5, iv d6, iv d7, .val (.long dw), .second, .val (.long (own_mask n5)), .second, .unset, .unset, .unset, .unset] [(.long (dw &&& (own_mask n5)))] (fun t k => XS.land X16.here hx rfl (hb hby at_153) rfl k) ?_
    refine own_go T16 m 155 #[.val (.long x0), .second, .val (.long x1), .second, iv x2, iv n5, iv d0, iv d1, iv d2, iv d3, iv d4, iv d5, iv d6, iv d7, .val (.long dw), .second, .val (.long (own_mask n5)), .second, .unset, .unset, .unset, .unset] [(.long x1), (.long (dw &&& (own_mask n5)))] (fun t k => XS.lloadN X16.here hx rfl (hb hby at_154) rfl k) ?_
    refine own_go T16 m 157 #[.val (.long x0), .second, .val (.long x1), .second, iv x2, iv n5, iv d0, iv d1, iv d2, iv d3, iv d4, iv d5, iv d6, iv d7, .val (.long dw), .second, .val (.long (own_mask n5)), .second, .unset, .unset, .unset, .unset] [(.long (own_mask n5)), (.long x1), (.long (dw &&& (own_mask n5)))] (fun t k => XS.lload X16.here hx rfl (hb hby at_155) rfl k) ?_
    refine own_go T16 m 160 #[.val (.long x0), .second, .val (.long x1), .second, iv x2, iv n5, iv d0, iv d1, iv d2, iv d3, iv d4, iv d5, iv d6, iv d7, .val (.long dw), .second, .val (.long (own_mask n5)), .second, .unset, .unset, .unset, .unset] [(.long (-1)), (.long (own_mask n5)), (.long x1), (.long (dw &&& (own_mask n5)))] (X16.ldc2Long hx hown (mvT hZ (own_w hw 8 rfl)) (g := (mkF m 157 #[.val (.long x0), .second, .val (.long x1), .second, iv x2, iv n5, iv d0, iv d1, iv d2, iv d3, iv d4, iv d5, iv d6, iv d7, .val (.long dw), .second, .val (.long (own_mask n5)), .second, .unset, .unset, .unset, .unset] [(.long (own_mask n5)), (.long x1), (.long (dw &&& (own_mask n5)))])) rfl (hb hby at_157)) ?_
    refine own_go T16 m 161 #[.val (.long x0), .second, .val (.long x1), .second, iv x2, iv n5, iv d0, iv d1, iv d2, iv d3, iv d4, iv d5, iv d6, iv d7, .val (.long dw), .second, .val (.long (own_mask n5)), .second, .unset, .unset, .unset, .unset] [(.long ((own_mask n5) ^^^ (-1 : Int64))), (.long x1), (.long (dw &&& (own_mask n5)))] (fun t k => XS.lxor X16.here hx rfl (hb hby at_160) rfl k) ?_
    refine own_go T16 m 162 #[.val (.long x0), .second, .val (.long x1), .second, iv x2, iv n5, iv d0, iv d1, iv d2, iv d3, iv d4, iv d5, iv d6, iv d7, .val (.long dw), .second, .val (.long (own_mask n5)), .second, .unset, .unset, .unset, .unset] [(.long (x1 &&& ((own_mask n5) ^^^ (-1 : Int64)))), (.long (dw &&& (own_mask n5)))] (fun t k => XS.land X16.here hx rfl (hb hby at_161) rfl k) ?_
    refine own_go T16 m 163 #[.val (.long x0), .second, .val (.long x1), .second, iv x2, iv n5, iv d0, iv d1, iv d2, iv d3, iv d4, iv d5, iv d6, iv d7, .val (.long dw), .second, .val (.long (own_mask n5)), .second, .unset, .unset, .unset, .unset] [(.long ((dw &&& (own_mask n5)) ||| (x1 &&& ((own_mask n5) ^^^ (-1 : Int64)))))] (fun t k => XS.lor X16.here hx rfl (hb hby at_162) rfl k) ?_
    refine own_go T16 m 165 #[.val (.long x0), .second, .val (.long x1), .second, iv x2, iv n5, iv d0, iv d1, iv d2, iv d3, iv d4, iv d5, iv d6, iv d7, .val (.long dw), .second, .val (.long (own_mask n5)), .second, .val (.long ((dw &&& (own_mask n5)) ||| (x1 &&& ((own_mask n5) ^^^ (-1 : Int64))))), .second, .unset, .unset] [] (fun t k => XS.lstore X16.here hx rfl (hb hby at_163) rfl rfl k) ?_
    obtain ⟨wd, hd_wd⟩ : ∃ z, z = ((dw &&& (own_mask n5)) ||| (x1 &&& ((own_mask n5) ^^^ (-1 : Int64)))) := ⟨_, rfl⟩
    rw [← hd_wd]
    refine own_go T16 m 167 #[.val (.long x0), .second, .val (.long x1), .second, iv x2, iv n5, iv d0, iv d1, iv d2, iv d3, iv d4, iv d5, iv d6, iv d7, .val (.long dw), .second, .val (.long (own_mask n5)), .second, .val (.long wd), .second, .unset, .unset] [(.int d0)] (fun t k => XS.iload X16.here hx rfl (hb hby at_165) rfl k) ?_
    refine own_go T16 m 168 #[.val (.long x0), .second, .val (.long x1), .second, iv x2, iv n5, iv d0, iv d1, iv d2, iv d3, iv d4, iv d5, iv d6, iv d7, .val (.long dw), .second, .val (.long (own_mask n5)), .second, .val (.long wd), .second, .unset, .unset] [(.long d0.toInt64)] (fun t k => XS.i2l X16.here hx rfl (hb hby at_167) rfl k) ?_
    refine own_go T16 m 170 #[.val (.long x0), .second, .val (.long x1), .second, iv x2, iv n5, iv d0, iv d1, iv d2, iv d3, iv d4, iv d5, iv d6, iv d7, .val (.long dw), .second, .val (.long (own_mask n5)), .second, .val (.long wd), .second, .val (.long d0.toInt64), .second] [] (fun t k => XS.lstore X16.here hx rfl (hb hby at_168) rfl rfl k) ?_
    refine own_go T16 m 172 #[.val (.long x0), .second, .val (.long x1), .second, iv x2, iv n5, iv d0, iv d1, iv d2, iv d3, iv d4, iv d5, iv d6, iv d7, .val (.long dw), .second, .val (.long (own_mask n5)), .second, .val (.long wd), .second, .val (.long d0.toInt64), .second] [(.int n5)] (fun t k => XS.iload X16.here hx rfl (hb hby at_170) rfl k) ?_
    refine own_go T16 m 173 #[.val (.long x0), .second, .val (.long x1), .second, iv x2, iv n5, iv d0, iv d1, iv d2, iv d3, iv d4, iv d5, iv d6, iv d7, .val (.long dw), .second, .val (.long (own_mask n5)), .second, .val (.long wd), .second, .val (.long d0.toInt64), .second] [(.int 1), (.int n5)] (fun t k => XS.iconst X16.here hx rfl (hb hby at_172) k) ?_
    have seg188 : OwnG p.tables e below s (fun v h L => v = some (.int 1) ∧ Fr n0 L) room_1.cells room_1.slots (T16.setTop (mkF m 188 #[.val (.long x0), .second, .val (.long x1), .second, iv x2, iv n5, iv d0, iv d1, iv d2, iv d3, iv d4, iv d5, iv d6, iv d7, .val (.long dw), .second, .val (.long (own_mask n5)), .second, .val (.long wd), .second, .val (.long (own_st n5 (1 : Int32) d0.toInt64 d1)), .second] [])) := by
      refine own_go T16 m 190 #[.val (.long x0), .second, .val (.long x1), .second, iv x2, iv n5, iv d0, iv d1, iv d2, iv d3, iv d4, iv d5, iv d6, iv d7, .val (.long dw), .second, .val (.long (own_mask n5)), .second, .val (.long wd), .second, .val (.long (own_st n5 (1 : Int32) d0.toInt64 d1)), .second] [(.int n5)] (fun t k => XS.iload X16.here hx rfl (hb hby at_188) rfl k) ?_
      refine own_go T16 m 191 #[.val (.long x0), .second, .val (.long x1), .second, iv x2, iv n5, iv d0, iv d1, iv d2, iv d3, iv d4, iv d5, iv d6, iv d7, .val (.long dw), .second, .val (.long (own_mask n5)), .second, .val (.long wd), .second, .val (.long (own_st n5 (1 : Int32) d0.toInt64 d1)), .second] [(.int 2), (.int n5)] (fun t k => XS.iconst X16.here hx rfl (hb hby at_190) k) ?_
      have seg206 : OwnG p.tables e below s (fun v h L => v = some (.int 1) ∧ Fr n0 L) room_1.cells room_1.slots (T16.setTop (mkF m 206 #[.val (.long x0), .second, .val (.long x1), .second, iv x2, iv n5, iv d0, iv d1, iv d2, iv d3, iv d4, iv d5, iv d6, iv d7, .val (.long dw), .second, .val (.long (own_mask n5)), .second, .val (.long wd), .second, .val (.long (own_st n5 (2 : Int32) (own_st n5 (1 : Int32) d0.toInt64 d1) d2)), .second] [])) := by
        refine own_go T16 m 208 #[.val (.long x0), .second, .val (.long x1), .second, iv x2, iv n5, iv d0, iv d1, iv d2, iv d3, iv d4, iv d5, iv d6, iv d7, .val (.long dw), .second, .val (.long (own_mask n5)), .second, .val (.long wd), .second, .val (.long (own_st n5 (2 : Int32) (own_st n5 (1 : Int32) d0.toInt64 d1) d2)), .second] [(.int n5)] (fun t k => XS.iload X16.here hx rfl (hb hby at_206) rfl k) ?_
        refine own_go T16 m 209 #[.val (.long x0), .second, .val (.long x1), .second, iv x2, iv n5, iv d0, iv d1, iv d2, iv d3, iv d4, iv d5, iv d6, iv d7, .val (.long dw), .second, .val (.long (own_mask n5)), .second, .val (.long wd), .second, .val (.long (own_st n5 (2 : Int32) (own_st n5 (1 : Int32) d0.toInt64 d1) d2)), .second] [(.int 3), (.int n5)] (fun t k => XS.iconst X16.here hx rfl (hb hby at_208) k) ?_
        have seg224 : OwnG p.tables e below s (fun v h L => v = some (.int 1) ∧ Fr n0 L) room_1.cells room_1.slots (T16.setTop (mkF m 224 #[.val (.long x0), .second, .val (.long x1), .second, iv x2, iv n5, iv d0, iv d1, iv d2, iv d3, iv d4, iv d5, iv d6, iv d7, .val (.long dw), .second, .val (.long (own_mask n5)), .second, .val (.long wd), .second, .val (.long (own_st n5 (3 : Int32) (own_st n5 (2 : Int32) (own_st n5 (1 : Int32) d0.toInt64 d1) d2) d3)), .second] [])) := by
          refine own_go T16 m 226 #[.val (.long x0), .second, .val (.long x1), .second, iv x2, iv n5, iv d0, iv d1, iv d2, iv d3, iv d4, iv d5, iv d6, iv d7, .val (.long dw), .second, .val (.long (own_mask n5)), .second, .val (.long wd), .second, .val (.long (own_st n5 (3 : Int32) (own_st n5 (2 : Int32) (own_st n5 (1 : Int32) d0.toInt64 d1) d2) d3)), .second] [(.int n5)] (fun t k => XS.iload X16.here hx rfl (hb hby at_224) rfl k) ?_
          refine own_go T16 m 227 #[.val (.long x0), .second, .val (.long x1), .second, iv x2, iv n5, iv d0, iv d1, iv d2, iv d3, iv d4, iv d5, iv d6, iv d7, .val (.long dw), .second, .val (.long (own_mask n5)), .second, .val (.long wd), .second, .val (.long (own_st n5 (3 : Int32) (own_st n5 (2 : Int32) (own_st n5 (1 : Int32) d0.toInt64 d1) d2) d3)), .second] [(.int 4), (.int n5)] (fun t k => XS.iconst X16.here hx rfl (hb hby at_226) k) ?_
          have seg242 : OwnG p.tables e below s (fun v h L => v = some (.int 1) ∧ Fr n0 L) room_1.cells room_1.slots (T16.setTop (mkF m 242 #[.val (.long x0), .second, .val (.long x1), .second, iv x2, iv n5, iv d0, iv d1, iv d2, iv d3, iv d4, iv d5, iv d6, iv d7, .val (.long dw), .second, .val (.long (own_mask n5)), .second, .val (.long wd), .second, .val (.long (own_st n5 (4 : Int32) (own_st n5 (3 : Int32) (own_st n5 (2 : Int32) (own_st n5 (1 : Int32) d0.toInt64 d1) d2) d3) d4)), .second] [])) := by
            refine own_go T16 m 244 #[.val (.long x0), .second, .val (.long x1), .second, iv x2, iv n5, iv d0, iv d1, iv d2, iv d3, iv d4, iv d5, iv d6, iv d7, .val (.long dw), .second, .val (.long (own_mask n5)), .second, .val (.long wd), .second, .val (.long (own_st n5 (4 : Int32) (own_st n5 (3 : Int32) (own_st n5 (2 : Int32) (own_st n5 (1 : Int32) d0.toInt64 d1) d2) d3) d4)), .second] [(.int n5)] (fun t k => XS.iload X16.here hx rfl (hb hby at_242) rfl k) ?_
            refine own_go T16 m 245 #[.val (.long x0), .second, .val (.long x1), .second, iv x2, iv n5, iv d0, iv d1, iv d2, iv d3, iv d4, iv d5, iv d6, iv d7, .val (.long dw), .second, .val (.long (own_mask n5)), .second, .val (.long wd), .second, .val (.long (own_st n5 (4 : Int32) (own_st n5 (3 : Int32) (own_st n5 (2 : Int32) (own_st n5 (1 : Int32) d0.toInt64 d1) d2) d3) d4)), .second] [(.int 5), (.int n5)] (fun t k => XS.iconst X16.here hx rfl (hb hby at_244) k) ?_
            have seg260 : OwnG p.tables e below s (fun v h L => v = some (.int 1) ∧ Fr n0 L) room_1.cells room_1.slots (T16.setTop (mkF m 260 #[.val (.long x0), .second, .val (.long x1), .second, iv x2, iv n5, iv d0, iv d1, iv d2, iv d3, iv d4, iv d5, iv d6, iv d7, .val (.long dw), .second, .val (.long (own_mask n5)), .second, .val (.long wd), .second, .val (.long (own_st n5 (5 : Int32) (own_st n5 (4 : Int32) (own_st n5 (3 : Int32) (own_st n5 (2 : Int32) (own_st n5 (1 : Int32) d0.toInt64 d1) d2) d3) d4) d5)), .second] [])) := by
              refine own_go T16 m 262 #[.val (.long x0), .second, .val (.long x1), .second, iv x2, iv n5, iv d0, iv d1, iv d2, iv d3, iv d4, iv d5, iv d6, iv d7, .val (.long dw), .second, .val (.long (own_mask n5)), .second, .val (.long wd), .second, .val (.long (own_st n5 (5 : Int32) (own_st n5 (4 : Int32) (own_st n5 (3 : Int32) (own_st n5 (2 : Int32) (own_st n5 (1 : Int32) d0.toInt64 d1) d2) d3) d4) d5)), .second] [(.int n5)] (fun t k => XS.iload X16.here hx rfl (hb hby at_260) rfl k) ?_
              refine own_go T16 m 264 #[.val (.long x0), .second, .val (.long x1), .second, iv x2, iv n5, iv d0, iv d1, iv d2, iv d3, iv d4, iv d5, iv d6, iv d7, .val (.long dw), .second, .val (.long (own_mask n5)), .second, .val (.long wd), .second, .val (.long (own_st n5 (5 : Int32) (own_st n5 (4 : Int32) (own_st n5 (3 : Int32) (own_st n5 (2 : Int32) (own_st n5 (1 : Int32) d0.toInt64 d1) d2) d3) d4) d5)), .second] [(.int 6), (.int n5)] (fun t k => XS.bipush X16.here hx rfl (hb hby at_262) k) ?_
              have seg279 : OwnG p.tables e below s (fun v h L => v = some (.int 1) ∧ Fr n0 L) room_1.cells room_1.slots (T16.setTop (mkF m 279 #[.val (.long x0), .second, .val (.long x1), .second, iv x2, iv n5, iv d0, iv d1, iv d2, iv d3, iv d4, iv d5, iv d6, iv d7, .val (.long dw), .second, .val (.long (own_mask n5)), .second, .val (.long wd), .second, .val (.long (own_st n5 (6 : Int32) (own_st n5 (5 : Int32) (own_st n5 (4 : Int32) (own_st n5 (3 : Int32) (own_st n5 (2 : Int32) (own_st n5 (1 : Int32) d0.toInt64 d1) d2) d3) d4) d5) d6)), .second] [])) := by
                refine own_go T16 m 281 #[.val (.long x0), .second, .val (.long x1), .second, iv x2, iv n5, iv d0, iv d1, iv d2, iv d3, iv d4, iv d5, iv d6, iv d7, .val (.long dw), .second, .val (.long (own_mask n5)), .second, .val (.long wd), .second, .val (.long (own_st n5 (6 : Int32) (own_st n5 (5 : Int32) (own_st n5 (4 : Int32) (own_st n5 (3 : Int32) (own_st n5 (2 : Int32) (own_st n5 (1 : Int32) d0.toInt64 d1) d2) d3) d4) d5) d6)), .second] [(.int n5)] (fun t k => XS.iload X16.here hx rfl (hb hby at_279) rfl k) ?_
                refine own_go T16 m 283 #[.val (.long x0), .second, .val (.long x1), .second, iv x2, iv n5, iv d0, iv d1, iv d2, iv d3, iv d4, iv d5, iv d6, iv d7, .val (.long dw), .second, .val (.long (own_mask n5)), .second, .val (.long wd), .second, .val (.long (own_st n5 (6 : Int32) (own_st n5 (5 : Int32) (own_st n5 (4 : Int32) (own_st n5 (3 : Int32) (own_st n5 (2 : Int32) (own_st n5 (1 : Int32) d0.toInt64 d1) d2) d3) d4) d5) d6)), .second] [(.int 7), (.int n5)] (fun t k => XS.bipush X16.here hx rfl (hb hby at_281) k) ?_
                have seg298 : OwnG p.tables e below s (fun v h L => v = some (.int 1) ∧ Fr n0 L) room_1.cells room_1.slots (T16.setTop (mkF m 298 #[.val (.long x0), .second, .val (.long x1), .second, iv x2, iv n5, iv d0, iv d1, iv d2, iv d3, iv d4, iv d5, iv d6, iv d7, .val (.long dw), .second, .val (.long (own_mask n5)), .second, .val (.long wd), .second, .val (.long (own_st n5 (7 : Int32) (own_st n5 (6 : Int32) (own_st n5 (5 : Int32) (own_st n5 (4 : Int32) (own_st n5 (3 : Int32) (own_st n5 (2 : Int32) (own_st n5 (1 : Int32) d0.toInt64 d1) d2) d3) d4) d5) d6) d7)), .second] [])) := by
                  refine own_go T16 m 300 #[.val (.long x0), .second, .val (.long x1), .second, iv x2, iv n5, iv d0, iv d1, iv d2, iv d3, iv d4, iv d5, iv d6, iv d7, .val (.long dw), .second, .val (.long (own_mask n5)), .second, .val (.long wd), .second, .val (.long (own_st n5 (7 : Int32) (own_st n5 (6 : Int32) (own_st n5 (5 : Int32) (own_st n5 (4 : Int32) (own_st n5 (3 : Int32) (own_st n5 (2 : Int32) (own_st n5 (1 : Int32) d0.toInt64 d1) d2) d3) d4) d5) d6) d7)), .second] [(.long wd)] (fun t k => XS.lload X16.here hx rfl (hb hby at_298) rfl k) ?_
                  refine own_go T16 m 302 #[.val (.long x0), .second, .val (.long x1), .second, iv x2, iv n5, iv d0, iv d1, iv d2, iv d3, iv d4, iv d5, iv d6, iv d7, .val (.long dw), .second, .val (.long (own_mask n5)), .second, .val (.long wd), .second, .val (.long (own_st n5 (7 : Int32) (own_st n5 (6 : Int32) (own_st n5 (5 : Int32) (own_st n5 (4 : Int32) (own_st n5 (3 : Int32) (own_st n5 (2 : Int32) (own_st n5 (1 : Int32) d0.toInt64 d1) d2) d3) d4) d5) d6) d7)), .second] [(.int n5), (.long wd)] (fun t k => XS.iload X16.here hx rfl (hb hby at_300) rfl k) ?_
                  obtain ⟨_, T25, L25, X25, ⟨rfl, e25, rfl⟩, st25⟩ := own_static X16 hx hZ (y := (⟨"org/orderloom/fix/ByteWords", "number", "(JI)J"⟩ : MethodName)) hown (own_w hw 9 rfl) (own_w hw 10 rfl) (own_w hw 11 rfl) (own_w hw 12 rfl) (by decide) (rm3 l Z a0 hw [] wd n5 h0) e16 0 (argsL := [(.long wd), (.int n5)]) (rest := []) (Ls := #[.val (.long x0), .second, .val (.long x1), .second, iv x2, iv n5, iv d0, iv d1, iv d2, iv d3, iv d4, iv d5, iv d6, iv d7, .val (.long dw), .second, .val (.long (own_mask n5)), .second, .val (.long wd), .second, .val (.long (own_st n5 (7 : Int32) (own_st n5 (6 : Int32) (own_st n5 (5 : Int32) (own_st n5 (4 : Int32) (own_st n5 (3 : Int32) (own_st n5 (2 : Int32) (own_st n5 (1 : Int32) d0.toInt64 d1) d2) d3) d4) d5) d6) d7)), .second]) (by rw [hml]; rfl) (lenOf pd__JI_J rfl) rfl rfl (Nat.le_of_eq rfl) (hb hby at_302) (by decide) (by decide) (by decide) (by decide)
                  replace X25 := own_nil X25
                  refine own_go T25 m 305 #[.val (.long x0), .second, .val (.long x1), .second, iv x2, iv n5, iv d0, iv d1, iv d2, iv d3, iv d4, iv d5, iv d6, iv d7, .val (.long dw), .second, .val (.long (own_mask n5)), .second, .val (.long wd), .second, .val (.long (own_st n5 (7 : Int32) (own_st n5 (6 : Int32) (own_st n5 (5 : Int32) (own_st n5 (4 : Int32) (own_st n5 (3 : Int32) (own_st n5 (2 : Int32) (own_st n5 (1 : Int32) d0.toInt64 d1) d2) d3) d4) d5) d6) d7)), .second] [(.long (own_num wd n5))] (st25) ?_
                  rw [show own_num wd n5 = (own_st n5 (7 : Int32) (own_st n5 (6 : Int32) (own_st n5 (5 : Int32) (own_st n5 (4 : Int32) (own_st n5 (3 : Int32) (own_st n5 (2 : Int32) (own_st n5 (1 : Int32) d0.toInt64 d1) d2) d3) d4) d5) d6) d7) from by rw [hd_wd, hd_dw]; exact own_main n5 d0 d1 d2 d3 d4 d5 d6 d7 x1 hn5 hb0 hb1 hb2 hb3 hb4 hb5 hb6 hb7]
                  refine own_go T25 m 307 #[.val (.long x0), .second, .val (.long x1), .second, iv x2, iv n5, iv d0, iv d1, iv d2, iv d3, iv d4, iv d5, iv d6, iv d7, .val (.long dw), .second, .val (.long (own_mask n5)), .second, .val (.long wd), .second, .val (.long (own_st n5 (7 : Int32) (own_st n5 (6 : Int32) (own_st n5 (5 : Int32) (own_st n5 (4 : Int32) (own_st n5 (3 : Int32) (own_st n5 (2 : Int32) (own_st n5 (1 : Int32) d0.toInt64 d1) d2) d3) d4) d5) d6) d7)), .second] [(.long (own_st n5 (7 : Int32) (own_st n5 (6 : Int32) (own_st n5 (5 : Int32) (own_st n5 (4 : Int32) (own_st n5 (3 : Int32) (own_st n5 (2 : Int32) (own_st n5 (1 : Int32) d0.toInt64 d1) d2) d3) d4) d5) d6) d7)), (.long (own_st n5 (7 : Int32) (own_st n5 (6 : Int32) (own_st n5 (5 : Int32) (own_st n5 (4 : Int32) (own_st n5 (3 : Int32) (own_st n5 (2 : Int32) (own_st n5 (1 : Int32) d0.toInt64 d1) d2) d3) d4) d5) d6) d7))] (fun t k => XS.lload X25.here hx rfl (hb hby at_305) rfl k) ?_
                  refine own_go T25 m 308 #[.val (.long x0), .second, .val (.long x1), .second, iv x2, iv n5, iv d0, iv d1, iv d2, iv d3, iv d4, iv d5, iv d6, iv d7, .val (.long dw), .second, .val (.long (own_mask n5)), .second, .val (.long wd), .second, .val (.long (own_st n5 (7 : Int32) (own_st n5 (6 : Int32) (own_st n5 (5 : Int32) (own_st n5 (4 : Int32) (own_st n5 (3 : Int32) (own_st n5 (2 : Int32) (own_st n5 (1 : Int32) d0.toInt64 d1) d2) d3) d4) d5) d6) d7)), .second] [(.int (lcmpW (own_st n5 (7 : Int32) (own_st n5 (6 : Int32) (own_st n5 (5 : Int32) (own_st n5 (4 : Int32) (own_st n5 (3 : Int32) (own_st n5 (2 : Int32) (own_st n5 (1 : Int32) d0.toInt64 d1) d2) d3) d4) d5) d6) d7) (own_st n5 (7 : Int32) (own_st n5 (6 : Int32) (own_st n5 (5 : Int32) (own_st n5 (4 : Int32) (own_st n5 (3 : Int32) (own_st n5 (2 : Int32) (own_st n5 (1 : Int32) d0.toInt64 d1) d2) d3) d4) d5) d6) d7)))] (fun t k => XS.lcmp X25.here hx rfl (hb hby at_307) rfl k) ?_
                  refine own_go T25 m 311 #[.val (.long x0), .second, .val (.long x1), .second, iv x2, iv n5, iv d0, iv d1, iv d2, iv d3, iv d4, iv d5, iv d6, iv d7, .val (.long dw), .second, .val (.long (own_mask n5)), .second, .val (.long wd), .second, .val (.long (own_st n5 (7 : Int32) (own_st n5 (6 : Int32) (own_st n5 (5 : Int32) (own_st n5 (4 : Int32) (own_st n5 (3 : Int32) (own_st n5 (2 : Int32) (own_st n5 (1 : Int32) d0.toInt64 d1) d2) d3) d4) d5) d6) d7)), .second] [] (fun t k => XS.ifNo X25.here hx rfl (hb hby at_308) rfl ((if0 _ _).trans (teq ((lw_eq (own_st n5 (7 : Int32) (own_st n5 (6 : Int32) (own_st n5 (5 : Int32) (own_st n5 (4 : Int32) (own_st n5 (3 : Int32) (own_st n5 (2 : Int32) (own_st n5 (1 : Int32) d0.toInt64 d1) d2) d3) d4) d5) d6) d7) (own_st n5 (7 : Int32) (own_st n5 (6 : Int32) (own_st n5 (5 : Int32) (own_st n5 (4 : Int32) (own_st n5 (3 : Int32) (own_st n5 (2 : Int32) (own_st n5 (1 : Int32) d0.toInt64 d1) d2) d3) d4) d5) d6) d7)).mpr rfl)).2) k) ?_
                  refine own_go T25 m 312 #[.val (.long x0), .second, .val (.long x1), .second, iv x2, iv n5, iv d0, iv d1, iv d2, iv d3, iv d4, iv d5, iv d6, iv d7, .val (.long dw), .second, .val (.long (own_mask n5)), .second, .val (.long wd), .second, .val (.long (own_st n5 (7 : Int32) (own_st n5 (6 : Int32) (own_st n5 (5 : Int32) (own_st n5 (4 : Int32) (own_st n5 (3 : Int32) (own_st n5 (2 : Int32) (own_st n5 (1 : Int32) d0.toInt64 d1) d2) d3) d4) d5) d6) d7)), .second] [(.int 1)] (fun t k => XS.iconst X25.here hx rfl (hb hby at_311) k) ?_
                  refine own_go T25 m 316 #[.val (.long x0), .second, .val (.long x1), .second, iv x2, iv n5, iv d0, iv d1, iv d2, iv d3, iv d4, iv d5, iv d6, iv d7, .val (.long dw), .second, .val (.long (own_mask n5)), .second, .val (.long wd), .second, .val (.long (own_st n5 (7 : Int32) (own_st n5 (6 : Int32) (own_st n5 (5 : Int32) (own_st n5 (4 : Int32) (own_st n5 (3 : Int32) (own_st n5 (2 : Int32) (own_st n5 (1 : Int32) d0.toInt64 d1) d2) d3) d4) d5) d6) d7)), .second] [(.int 1)] (fun t k => XS.goto X25.here hx rfl (pc0 := 312) (pc' := 316) rfl (hb hby at_312) (by decide) (by decide) k) ?_
                  refine own_retZ X25 hx hlk hret (by decide) (hb hby at_316) (by decide) (by decide) ?_
                  exact ⟨rfl, N0⟩
                by_cases hc283_26 : (7 : Int32) < n5
                · refine own_go T16 m 286 #[.val (.long x0), .second, .val (.long x1), .second, iv x2, iv n5, iv d0, iv d1, iv d2, iv d3, iv d4, iv d5, iv d6, iv d7, .val (.long dw), .second, .val (.long (own_mask n5)), .second, .val (.long wd), .second, .val (.long (own_st n5 (6 : Int32) (own_st n5 (5 : Int32) (own_st n5 (4 : Int32) (own_st n5 (3 : Int32) (own_st n5 (2 : Int32) (own_st n5 (1 : Int32) d0.toInt64 d1) d2) d3) d4) d5) d6)), .second] [] (fun t k => XS.icmpNo X16.here hx rfl (hb hby at_283) rfl (tlt hc283_26).2.2.2 k) ?_
                  refine own_go T16 m 288 #[.val (.long x0), .second, .val (.long x1), .second, iv x2, iv n5, iv d0, iv d1, iv d2, iv d3, iv d4, iv d5, iv d6, iv d7, .val (.long dw), .second, .val (.long (own_mask n5)), .second, .val (.long wd), .second, .val (.long (own_st n5 (6 : Int32) (own_st n5 (5 : Int32) (own_st n5 (4 : Int32) (own_st n5 (3 : Int32) (own_st n5 (2 : Int32) (own_st n5 (1 : Int32) d0.toInt64 d1) d2) d3) d4) d5) d6)), .second] [(.long (own_st n5 (6 : Int32) (own_st n5 (5 : Int32) (own_st n5 (4 : Int32) (own_st n5 (3 : Int32) (own_st n5 (2 : Int32) (own_st n5 (1 : Int32) d0.toInt64 d1) d2) d3) d4) d5) d6))] (fun t k => XS.lload X16.here hx rfl (hb hby at_286) rfl k) ?_
                  refine own_go T16 m 291 #[.val (.long x0), .second, .val (.long x1), .second, iv x2, iv n5, iv d0, iv d1, iv d2, iv d3, iv d4, iv d5, iv d6, iv d7, .val (.long dw), .second, .val (.long (own_mask n5)), .second, .val (.long wd), .second, .val (.long (own_st n5 (6 : Int32) (own_st n5 (5 : Int32) (own_st n5 (4 : Int32) (own_st n5 (3 : Int32) (own_st n5 (2 : Int32) (own_st n5 (1 : Int32) d0.toInt64 d1) d2) d3) d4) d5) d6)), .second] [(.long 10), (.long (own_st n5 (6 : Int32) (own_st n5 (5 : Int32) (own_st n5 (4 : Int32) (own_st n5 (3 : Int32) (own_st n5 (2 : Int32) (own_st n5 (1 : Int32) d0.toInt64 d1) d2) d3) d4) d5) d6))] (X16.ldc2Long hx hown (mvT hZ (own_w hw 20 rfl)) (g := (mkF m 288 #[.val (.long x0), .second, .val (.long x1), .second, iv x2, iv n5, iv d0, iv d1, iv d2, iv d3, iv d4, iv d5, iv d6, iv d7, .val (.long dw), .second, .val (.long (own_mask n5)), .second, .val (.long wd), .second, .val (.long (own_st n5 (6 : Int32) (own_st n5 (5 : Int32) (own_st n5 (4 : Int32) (own_st n5 (3 : Int32) (own_st n5 (2 : Int32) (own_st n5 (1 : Int32) d0.toInt64 d1) d2) d3) d4) d5) d6)), .second] [(.long (own_st n5 (6 : Int32) (own_st n5 (5 : Int32) (own_st n5 (4 : Int32) (own_st n5 (3 : Int32) (own_st n5 (2 : Int32) (own_st n5 (1 : Int32) d0.toInt64 d1) d2) d3) d4) d5) d6))])) rfl (hb hby at_288)) ?_
                  refine own_go T16 m 292 #[.val (.long x0), .second, .val (.long x1), .second, iv x2, iv n5, iv d0, iv d1, iv d2, iv d3, iv d4, iv d5, iv d6, iv d7, .val (.long dw), .second, .val (.long (own_mask n5)), .second, .val (.long wd), .second, .val (.long (own_st n5 (6 : Int32) (own_st n5 (5 : Int32) (own_st n5 (4 : Int32) (own_st n5 (3 : Int32) (own_st n5 (2 : Int32) (own_st n5 (1 : Int32) d0.toInt64 d1) d2) d3) d4) d5) d6)), .second] [(.long ((own_st n5 (6 : Int32) (own_st n5 (5 : Int32) (own_st n5 (4 : Int32) (own_st n5 (3 : Int32) (own_st n5 (2 : Int32) (own_st n5 (1 : Int32) d0.toInt64 d1) d2) d3) d4) d5) d6) * (10 : Int64)))] (fun t k => XS.lmul X16.here hx rfl (hb hby at_291) rfl k) ?_
                  refine own_go T16 m 294 #[.val (.long x0), .second, .val (.long x1), .second, iv x2, iv n5, iv d0, iv d1, iv d2, iv d3, iv d4, iv d5, iv d6, iv d7, .val (.long dw), .second, .val (.long (own_mask n5)), .second, .val (.long wd), .second, .val (.long (own_st n5 (6 : Int32) (own_st n5 (5 : Int32) (own_st n5 (4 : Int32) (own_st n5 (3 : Int32) (own_st n5 (2 : Int32) (own_st n5 (1 : Int32) d0.toInt64 d1) d2) d3) d4) d5) d6)), .second] [(.int d7), (.long ((own_st n5 (6 : Int32) (own_st n5 (5 : Int32) (own_st n5 (4 : Int32) (own_st n5 (3 : Int32) (own_st n5 (2 : Int32) (own_st n5 (1 : Int32) d0.toInt64 d1) d2) d3) d4) d5) d6) * (10 : Int64)))] (fun t k => XS.iload X16.here hx rfl (hb hby at_292) rfl k) ?_
                  refine own_go T16 m 295 #[.val (.long x0), .second, .val (.long x1), .second, iv x2, iv n5, iv d0, iv d1, iv d2, iv d3, iv d4, iv d5, iv d6, iv d7, .val (.long dw), .second, .val (.long (own_mask n5)), .second, .val (.long wd), .second, .val (.long (own_st n5 (6 : Int32) (own_st n5 (5 : Int32) (own_st n5 (4 : Int32) (own_st n5 (3 : Int32) (own_st n5 (2 : Int32) (own_st n5 (1 : Int32) d0.toInt64 d1) d2) d3) d4) d5) d6)), .second] [(.long d7.toInt64), (.long ((own_st n5 (6 : Int32) (own_st n5 (5 : Int32) (own_st n5 (4 : Int32) (own_st n5 (3 : Int32) (own_st n5 (2 : Int32) (own_st n5 (1 : Int32) d0.toInt64 d1) d2) d3) d4) d5) d6) * (10 : Int64)))] (fun t k => XS.i2l X16.here hx rfl (hb hby at_294) rfl k) ?_
                  refine own_go T16 m 296 #[.val (.long x0), .second, .val (.long x1), .second, iv x2, iv n5, iv d0, iv d1, iv d2, iv d3, iv d4, iv d5, iv d6, iv d7, .val (.long dw), .second, .val (.long (own_mask n5)), .second, .val (.long wd), .second, .val (.long (own_st n5 (6 : Int32) (own_st n5 (5 : Int32) (own_st n5 (4 : Int32) (own_st n5 (3 : Int32) (own_st n5 (2 : Int32) (own_st n5 (1 : Int32) d0.toInt64 d1) d2) d3) d4) d5) d6)), .second] [(.long (((own_st n5 (6 : Int32) (own_st n5 (5 : Int32) (own_st n5 (4 : Int32) (own_st n5 (3 : Int32) (own_st n5 (2 : Int32) (own_st n5 (1 : Int32) d0.toInt64 d1) d2) d3) d4) d5) d6) * (10 : Int64)) + d7.toInt64))] (fun t k => XS.ladd X16.here hx rfl (hb hby at_295) rfl k) ?_
                  refine own_go T16 m 298 #[.val (.long x0), .second, .val (.long x1), .second, iv x2, iv n5, iv d0, iv d1, iv d2, iv d3, iv d4, iv d5, iv d6, iv d7, .val (.long dw), .second, .val (.long (own_mask n5)), .second, .val (.long wd), .second, .val (.long (((own_st n5 (6 : Int32) (own_st n5 (5 : Int32) (own_st n5 (4 : Int32) (own_st n5 (3 : Int32) (own_st n5 (2 : Int32) (own_st n5 (1 : Int32) d0.toInt64 d1) d2) d3) d4) d5) d6) * (10 : Int64)) + d7.toInt64)), .second] [] (fun t k => XS.lstore X16.here hx rfl (hb hby at_296) rfl rfl k) ?_
                  have hst : (own_st n5 (7 : Int32) (own_st n5 (6 : Int32) (own_st n5 (5 : Int32) (own_st n5 (4 : Int32) (own_st n5 (3 : Int32) (own_st n5 (2 : Int32) (own_st n5 (1 : Int32) d0.toInt64 d1) d2) d3) d4) d5) d6) d7) = (((own_st n5 (6 : Int32) (own_st n5 (5 : Int32) (own_st n5 (4 : Int32) (own_st n5 (3 : Int32) (own_st n5 (2 : Int32) (own_st n5 (1 : Int32) d0.toInt64 d1) d2) d3) d4) d5) d6) * (10 : Int64)) + d7.toInt64) := by simp [own_st, hc283_26]
                  rw [hst] at seg298
                  exact seg298
                · refine own_go T16 m 298 #[.val (.long x0), .second, .val (.long x1), .second, iv x2, iv n5, iv d0, iv d1, iv d2, iv d3, iv d4, iv d5, iv d6, iv d7, .val (.long dw), .second, .val (.long (own_mask n5)), .second, .val (.long wd), .second, .val (.long (own_st n5 (6 : Int32) (own_st n5 (5 : Int32) (own_st n5 (4 : Int32) (own_st n5 (3 : Int32) (own_st n5 (2 : Int32) (own_st n5 (1 : Int32) d0.toInt64 d1) d2) d3) d4) d5) d6)), .second] [] (fun t k => XS.icmpYes X16.here hx rfl (pc0 := 283) (pc' := 298) rfl (hb hby at_283) rfl (flt hc283_26).2.2.2 (by decide) (by decide) k) ?_
                  have hst : (own_st n5 (7 : Int32) (own_st n5 (6 : Int32) (own_st n5 (5 : Int32) (own_st n5 (4 : Int32) (own_st n5 (3 : Int32) (own_st n5 (2 : Int32) (own_st n5 (1 : Int32) d0.toInt64 d1) d2) d3) d4) d5) d6) d7) = (own_st n5 (6 : Int32) (own_st n5 (5 : Int32) (own_st n5 (4 : Int32) (own_st n5 (3 : Int32) (own_st n5 (2 : Int32) (own_st n5 (1 : Int32) d0.toInt64 d1) d2) d3) d4) d5) d6) := by simp [own_st, hc283_26]
                  rw [hst] at seg298
                  exact seg298
              by_cases hc264_27 : (6 : Int32) < n5
              · refine own_go T16 m 267 #[.val (.long x0), .second, .val (.long x1), .second, iv x2, iv n5, iv d0, iv d1, iv d2, iv d3, iv d4, iv d5, iv d6, iv d7, .val (.long dw), .second, .val (.long (own_mask n5)), .second, .val (.long wd), .second, .val (.long (own_st n5 (5 : Int32) (own_st n5 (4 : Int32) (own_st n5 (3 : Int32) (own_st n5 (2 : Int32) (own_st n5 (1 : Int32) d0.toInt64 d1) d2) d3) d4) d5)), .second] [] (fun t k => XS.icmpNo X16.here hx rfl (hb hby at_264) rfl (tlt hc264_27).2.2.2 k) ?_
                refine own_go T16 m 269 #[.val (.long x0), .second, .val (.long x1), .second, iv x2, iv n5, iv d0, iv d1, iv d2, iv d3, iv d4, iv d5, iv d6, iv d7, .val (.long dw), .second, .val (.long (own_mask n5)), .second, .val (.long wd), .second, .val (.long (own_st n5 (5 : Int32) (own_st n5 (4 : Int32) (own_st n5 (3 : Int32) (own_st n5 (2 : Int32) (own_st n5 (1 : Int32) d0.toInt64 d1) d2) d3) d4) d5)), .second] [(.long (own_st n5 (5 : Int32) (own_st n5 (4 : Int32) (own_st n5 (3 : Int32) (own_st n5 (2 : Int32) (own_st n5 (1 : Int32) d0.toInt64 d1) d2) d3) d4) d5))] (fun t k => XS.lload X16.here hx rfl (hb hby at_267) rfl k) ?_
                refine own_go T16 m 272 #[.val (.long x0), .second, .val (.long x1), .second, iv x2, iv n5, iv d0, iv d1, iv d2, iv d3, iv d4, iv d5, iv d6, iv d7, .val (.long dw), .second, .val (.long (own_mask n5)), .second, .val (.long wd), .second, .val (.long (own_st n5 (5 : Int32) (own_st n5 (4 : Int32) (own_st n5 (3 : Int32) (own_st n5 (2 : Int32) (own_st n5 (1 : Int32) d0.toInt64 d1) d2) d3) d4) d5)), .second] [(.long 10), (.long (own_st n5 (5 : Int32) (own_st n5 (4 : Int32) (own_st n5 (3 : Int32) (own_st n5 (2 : Int32) (own_st n5 (1 : Int32) d0.toInt64 d1) d2) d3) d4) d5))] (X16.ldc2Long hx hown (mvT hZ (own_w hw 20 rfl)) (g := (mkF m 269 #[.val (.long x0), .second, .val (.long x1), .second, iv x2, iv n5, iv d0, iv d1, iv d2, iv d3, iv d4, iv d5, iv d6, iv d7, .val (.long dw), .second, .val (.long (own_mask n5)), .second, .val (.long wd), .second, .val (.long (own_st n5 (5 : Int32) (own_st n5 (4 : Int32) (own_st n5 (3 : Int32) (own_st n5 (2 : Int32) (own_st n5 (1 : Int32) d0.toInt64 d1) d2) d3) d4) d5)), .second] [(.long (own_st n5 (5 : Int32) (own_st n5 (4 : Int32) (own_st n5 (3 : Int32) (own_st n5 (2 : Int32) (own_st n5 (1 : Int32) d0.toInt64 d1) d2) d3) d4) d5))])) rfl (hb hby at_269)) ?_
                refine own_go T16 m 273 #[.val (.long x0), .second, .val (.long x1), .second, iv x2, iv n5, iv d0, iv d1, iv d2, iv d3, iv d4, iv d5, iv d6, iv d7, .val (.long dw), .second, .val (.long (own_mask n5)), .second, .val (.long wd), .second, .val (.long (own_st n5 (5 : Int32) (own_st n5 (4 : Int32) (own_st n5 (3 : Int32) (own_st n5 (2 : Int32) (own_st n5 (1 : Int32) d0.toInt64 d1) d2) d3) d4) d5)), .second] [(.long ((own_st n5 (5 : Int32) (own_st n5 (4 : Int32) (own_st n5 (3 : Int32) (own_st n5 (2 : Int32) (own_st n5 (1 : Int32) d0.toInt64 d1) d2) d3) d4) d5) * (10 : Int64)))] (fun t k => XS.lmul X16.here hx rfl (hb hby at_272) rfl k) ?_
                refine own_go T16 m 275 #[.val (.long x0), .second, .val (.long x1), .second, iv x2, iv n5, iv d0, iv d1, iv d2, iv d3, iv d4, iv d5, iv d6, iv d7, .val (.long dw), .second, .val (.long (own_mask n5)), .second, .val (.long wd), .second, .val (.long (own_st n5 (5 : Int32) (own_st n5 (4 : Int32) (own_st n5 (3 : Int32) (own_st n5 (2 : Int32) (own_st n5 (1 : Int32) d0.toInt64 d1) d2) d3) d4) d5)), .second] [(.int d6), (.long ((own_st n5 (5 : Int32) (own_st n5 (4 : Int32) (own_st n5 (3 : Int32) (own_st n5 (2 : Int32) (own_st n5 (1 : Int32) d0.toInt64 d1) d2) d3) d4) d5) * (10 : Int64)))] (fun t k => XS.iload X16.here hx rfl (hb hby at_273) rfl k) ?_
                refine own_go T16 m 276 #[.val (.long x0), .second, .val (.long x1), .second, iv x2, iv n5, iv d0, iv d1, iv d2, iv d3, iv d4, iv d5, iv d6, iv d7, .val (.long dw), .second, .val (.long (own_mask n5)), .second, .val (.long wd), .second, .val (.long (own_st n5 (5 : Int32) (own_st n5 (4 : Int32) (own_st n5 (3 : Int32) (own_st n5 (2 : Int32) (own_st n5 (1 : Int32) d0.toInt64 d1) d2) d3) d4) d5)), .second] [(.long d6.toInt64), (.long ((own_st n5 (5 : Int32) (own_st n5 (4 : Int32) (own_st n5 (3 : Int32) (own_st n5 (2 : Int32) (own_st n5 (1 : Int32) d0.toInt64 d1) d2) d3) d4) d5) * (10 : Int64)))] (fun t k => XS.i2l X16.here hx rfl (hb hby at_275) rfl k) ?_
                refine own_go T16 m 277 #[.val (.long x0), .second, .val (.long x1), .second, iv x2, iv n5, iv d0, iv d1, iv d2, iv d3, iv d4, iv d5, iv d6, iv d7, .val (.long dw), .second, .val (.long (own_mask n5)), .second, .val (.long wd), .second, .val (.long (own_st n5 (5 : Int32) (own_st n5 (4 : Int32) (own_st n5 (3 : Int32) (own_st n5 (2 : Int32) (own_st n5 (1 : Int32) d0.toInt64 d1) d2) d3) d4) d5)), .second] [(.long (((own_st n5 (5 : Int32) (own_st n5 (4 : Int32) (own_st n5 (3 : Int32) (own_st n5 (2 : Int32) (own_st n5 (1 : Int32) d0.toInt64 d1) d2) d3) d4) d5) * (10 : Int64)) + d6.toInt64))] (fun t k => XS.ladd X16.here hx rfl (hb hby at_276) rfl k) ?_
                refine own_go T16 m 279 #[.val (.long x0), .second, .val (.long x1), .second, iv x2, iv n5, iv d0, iv d1, iv d2, iv d3, iv d4, iv d5, iv d6, iv d7, .val (.long dw), .second, .val (.long (own_mask n5)), .second, .val (.long wd), .second, .val (.long (((own_st n5 (5 : Int32) (own_st n5 (4 : Int32) (own_st n5 (3 : Int32) (own_st n5 (2 : Int32) (own_st n5 (1 : Int32) d0.toInt64 d1) d2) d3) d4) d5) * (10 : Int64)) + d6.toInt64)), .second] [] (fun t k => XS.lstore X16.here hx rfl (hb hby at_277) rfl rfl k) ?_
                have hst : (own_st n5 (6 : Int32) (own_st n5 (5 : Int32) (own_st n5 (4 : Int32) (own_st n5 (3 : Int32) (own_st n5 (2 : Int32) (own_st n5 (1 : Int32) d0.toInt64 d1) d2) d3) d4) d5) d6) = (((own_st n5 (5 : Int32) (own_st n5 (4 : Int32) (own_st n5 (3 : Int32) (own_st n5 (2 : Int32) (own_st n5 (1 : Int32) d0.toInt64 d1) d2) d3) d4) d5) * (10 : Int64)) + d6.toInt64) := by simp [own_st, hc264_27]
                rw [hst] at seg279
                exact seg279
              · refine own_go T16 m 279 #[.val (.long x0), .second, .val (.long x1), .second, iv x2, iv n5, iv d0, iv d1, iv d2, iv d3, iv d4, iv d5, iv d6, iv d7, .val (.long dw), .second, .val (.long (own_mask n5)), .second, .val (.long wd), .second, .val (.long (own_st n5 (5 : Int32) (own_st n5 (4 : Int32) (own_st n5 (3 : Int32) (own_st n5 (2 : Int32) (own_st n5 (1 : Int32) d0.toInt64 d1) d2) d3) d4) d5)), .second] [] (fun t k => XS.icmpYes X16.here hx rfl (pc0 := 264) (pc' := 279) rfl (hb hby at_264) rfl (flt hc264_27).2.2.2 (by decide) (by decide) k) ?_
                have hst : (own_st n5 (6 : Int32) (own_st n5 (5 : Int32) (own_st n5 (4 : Int32) (own_st n5 (3 : Int32) (own_st n5 (2 : Int32) (own_st n5 (1 : Int32) d0.toInt64 d1) d2) d3) d4) d5) d6) = (own_st n5 (5 : Int32) (own_st n5 (4 : Int32) (own_st n5 (3 : Int32) (own_st n5 (2 : Int32) (own_st n5 (1 : Int32) d0.toInt64 d1) d2) d3) d4) d5) := by simp [own_st, hc264_27]
                rw [hst] at seg279
                exact seg279
            by_cases hc245_28 : (5 : Int32) < n5
            · refine own_go T16 m 248 #[.val (.long x0), .second, .val (.long x1), .second, iv x2, iv n5, iv d0, iv d1, iv d2, iv d3, iv d4, iv d5, iv d6, iv d7, .val (.long dw), .second, .val (.long (own_mask n5)), .second, .val (.long wd), .second, .val (.long (own_st n5 (4 : Int32) (own_st n5 (3 : Int32) (own_st n5 (2 : Int32) (own_st n5 (1 : Int32) d0.toInt64 d1) d2) d3) d4)), .second] [] (fun t k => XS.icmpNo X16.here hx rfl (hb hby at_245) rfl (tlt hc245_28).2.2.2 k) ?_
              refine own_go T16 m 250 #[.val (.long x0), .second, .val (.long x1), .second, iv x2, iv n5, iv d0, iv d1, iv d2, iv d3, iv d4, iv d5, iv d6, iv d7, .val (.long dw), .second, .val (.long (own_mask n5)), .second, .val (.long wd), .second, .val (.long (own_st n5 (4 : Int32) (own_st n5 (3 : Int32) (own_st n5 (2 : Int32) (own_st n5 (1 : Int32) d0.toInt64 d1) d2) d3) d4)), .second] [(.long (own_st n5 (4 : Int32) (own_st n5 (3 : Int32) (own_st n5 (2 : Int32) (own_st n5 (1 : Int32) d0.toInt64 d1) d2) d3) d4))] (fun t k => XS.lload X16.here hx rfl (hb hby at_248) rfl k) ?_
              refine own_go T16 m 253 #[.val (.long x0), .second, .val (.long x1), .second, iv x2, iv n5, iv d0, iv d1, iv d2, iv d3, iv d4, iv d5, iv d6, iv d7, .val (.long dw), .second, .val (.long (own_mask n5)), .second, .val (.long wd), .second, .val (.long (own_st n5 (4 : Int32) (own_st n5 (3 : Int32) (own_st n5 (2 : Int32) (own_st n5 (1 : Int32) d0.toInt64 d1) d2) d3) d4)), .second] [(.long 10), (.long (own_st n5 (4 : Int32) (own_st n5 (3 : Int32) (own_st n5 (2 : Int32) (own_st n5 (1 : Int32) d0.toInt64 d1) d2) d3) d4))] (X16.ldc2Long hx hown (mvT hZ (own_w hw 20 rfl)) (g := (mkF m 250 #[.val (.long x0), .second, .val (.long x1), .second, iv x2, iv n5, iv d0, iv d1, iv d2, iv d3, iv d4, iv d5, iv d6, iv d7, .val (.long dw), .second, .val (.long (own_mask n5)), .second, .val (.long wd), .second, .val (.long (own_st n5 (4 : Int32) (own_st n5 (3 : Int32) (own_st n5 (2 : Int32) (own_st n5 (1 : Int32) d0.toInt64 d1) d2) d3) d4)), .second] [(.long (own_st n5 (4 : Int32) (own_st n5 (3 : Int32) (own_st n5 (2 : Int32) (own_st n5 (1 : Int32) d0.toInt64 d1) d2) d3) d4))])) rfl (hb hby at_250)) ?_
              refine own_go T16 m 254 #[.val (.long x0), .second, .val (.long x1), .second, iv x2, iv n5, iv d0, iv d1, iv d2, iv d3, iv d4, iv d5, iv d6, iv d7, .val (.long dw), .second, .val (.long (own_mask n5)), .second, .val (.long wd), .second, .val (.long (own_st n5 (4 : Int32) (own_st n5 (3 : Int32) (own_st n5 (2 : Int32) (own_st n5 (1 : Int32) d0.toInt64 d1) d2) d3) d4)), .second] [(.long ((own_st n5 (4 : Int32) (own_st n5 (3 : Int32) (own_st n5 (2 : Int32) (own_st n5 (1 : Int32) d0.toInt64 d1) d2) d3) d4) * (10 : Int64)))] (fun t k => XS.lmul X16.here hx rfl (hb hby at_253) rfl k) ?_
              refine own_go T16 m 256 #[.val (.long x0), .second, .val (.long x1), .second, iv x2, iv n5, iv d0, iv d1, iv d2, iv d3, iv d4, iv d5, iv d6, iv d7, .val (.long dw), .second, .val (.long (own_mask n5)), .second, .val (.long wd), .second, .val (.long (own_st n5 (4 : Int32) (own_st n5 (3 : Int32) (own_st n5 (2 : Int32) (own_st n5 (1 : Int32) d0.toInt64 d1) d2) d3) d4)), .second] [(.int d5), (.long ((own_st n5 (4 : Int32) (own_st n5 (3 : Int32) (own_st n5 (2 : Int32) (own_st n5 (1 : Int32) d0.toInt64 d1) d2) d3) d4) * (10 : Int64)))] (fun t k => XS.iload X16.here hx rfl (hb hby at_254) rfl k) ?_
              refine own_go T16 m 257 #[.val (.long x0), .second, .val (.long x1), .second, iv x2, iv n5, iv d0, iv d1, iv d2, iv d3, iv d4, iv d5, iv d6, iv d7, .val (.long dw), .second, .val (.long (own_mask n5)), .second, .val (.long wd), .second, .val (.long (own_st n5 (4 : Int32) (own_st n5 (3 : Int32) (own_st n5 (2 : Int32) (own_st n5 (1 : Int32) d0.toInt64 d1) d2) d3) d4)), .second] [(.long d5.toInt64), (.long ((own_st n5 (4 : Int32) (own_st n5 (3 : Int32) (own_st n5 (2 : Int32) (own_st n5 (1 : Int32) d0.toInt64 d1) d2) d3) d4) * (10 : Int64)))] (fun t k => XS.i2l X16.here hx rfl (hb hby at_256) rfl k) ?_
              refine own_go T16 m 258 #[.val (.long x0), .second, .val (.long x1), .second, iv x2, iv n5, iv d0, iv d1, iv d2, iv d3, iv d4, iv d5, iv d6, iv d7, .val (.long dw), .second, .val (.long (own_mask n5)), .second, .val (.long wd), .second, .val (.long (own_st n5 (4 : Int32) (own_st n5 (3 : Int32) (own_st n5 (2 : Int32) (own_st n5 (1 : Int32) d0.toInt64 d1) d2) d3) d4)), .second] [(.long (((own_st n5 (4 : Int32) (own_st n5 (3 : Int32) (own_st n5 (2 : Int32) (own_st n5 (1 : Int32) d0.toInt64 d1) d2) d3) d4) * (10 : Int64)) + d5.toInt64))] (fun t k => XS.ladd X16.here hx rfl (hb hby at_257) rfl k) ?_
              refine own_go T16 m 260 #[.val (.long x0), .second, .val (.long x1), .second, iv x2, iv n5, iv d0, iv d1, iv d2, iv d3, iv d4, iv d5, iv d6, iv d7, .val (.long dw), .second, .val (.long (own_mask n5)), .second, .val (.long wd), .second, .val (.long (((own_st n5 (4 : Int32) (own_st n5 (3 : Int32) (own_st n5 (2 : Int32) (own_st n5 (1 : Int32) d0.toInt64 d1) d2) d3) d4) * (10 : Int64)) + d5.toInt64)), .second] [] (fun t k => XS.lstore X16.here hx rfl (hb hby at_258) rfl rfl k) ?_
              have hst : (own_st n5 (5 : Int32) (own_st n5 (4 : Int32) (own_st n5 (3 : Int32) (own_st n5 (2 : Int32) (own_st n5 (1 : Int32) d0.toInt64 d1) d2) d3) d4) d5) = (((own_st n5 (4 : Int32) (own_st n5 (3 : Int32) (own_st n5 (2 : Int32) (own_st n5 (1 : Int32) d0.toInt64 d1) d2) d3) d4) * (10 : Int64)) + d5.toInt64) := by simp [own_st, hc245_28]
              rw [hst] at seg260
              exact seg260
            · refine own_go T16 m 260 #[.val (.long x0), .second, .val (.long x1), .second, iv x2, iv n5, iv d0, iv d1, iv d2, iv d3, iv d4, iv d5, iv d6, iv d7, .val (.long dw), .second, .val (.long (own_mask n5)), .second, .val (.long wd), .second, .val (.long (own_st n5 (4 : Int32) (own_st n5 (3 : Int32) (own_st n5 (2 : Int32) (own_st n5 (1 : Int32) d0.toInt64 d1) d2) d3) d4)), .second] [] (fun t k => XS.icmpYes X16.here hx rfl (pc0 := 245) (pc' := 260) rfl (hb hby at_245) rfl (flt hc245_28).2.2.2 (by decide) (by decide) k) ?_
              have hst : (own_st n5 (5 : Int32) (own_st n5 (4 : Int32) (own_st n5 (3 : Int32) (own_st n5 (2 : Int32) (own_st n5 (1 : Int32) d0.toInt64 d1) d2) d3) d4) d5) = (own_st n5 (4 : Int32) (own_st n5 (3 : Int32) (own_st n5 (2 : Int32) (own_st n5 (1 : Int32) d0.toInt64 d1) d2) d3) d4) := by simp [own_st, hc245_28]
              rw [hst] at seg260
              exact seg260
          by_cases hc227_29 : (4 : Int32) < n5
          · refine own_go T16 m 230 #[.val (.long x0), .second, .val (.long x1), .second, iv x2, iv n5, iv d0, iv d1, iv d2, iv d3, iv d4, iv d5, iv d6, iv d7, .val (.long dw), .second, .val (.long (own_mask n5)), .second, .val (.long wd), .second, .val (.long (own_st n5 (3 : Int32) (own_st n5 (2 : Int32) (own_st n5 (1 : Int32) d0.toInt64 d1) d2) d3)), .second] [] (fun t k => XS.icmpNo X16.here hx rfl (hb hby at_227) rfl (tlt hc227_29).2.2.2 k) ?_
            refine own_go T16 m 232 #[.val (.long x0), .second, .val (.long x1), .second, iv x2, iv n5, iv d0, iv d1, iv d2, iv d3, iv d4, iv d5, iv d6, iv d7, .val (.long dw), .second, .val (.long (own_mask n5)), .second, .val (.long wd), .second, .val (.long (own_st n5 (3 : Int32) (own_st n5 (2 : Int32) (own_st n5 (1 : Int32) d0.toInt64 d1) d2) d3)), .second] [(.long (own_st n5 (3 : Int32) (own_st n5 (2 : Int32) (own_st n5 (1 : Int32) d0.toInt64 d1) d2) d3))] (fun t k => XS.lload X16.here hx rfl (hb hby at_230) rfl k) ?_
            refine own_go T16 m 235 #[.val (.long x0), .second, .val (.long x1), .second, iv x2, iv n5, iv d0, iv d1, iv d2, iv d3, iv d4, iv d5, iv d6, iv d7, .val (.long dw), .second, .val (.long (own_mask n5)), .second, .val (.long wd), .second, .val (.long (own_st n5 (3 : Int32) (own_st n5 (2 : Int32) (own_st n5 (1 : Int32) d0.toInt64 d1) d2) d3)), .second] [(.long 10), (.long (own_st n5 (3 : Int32) (own_st n5 (2 : Int32) (own_st n5 (1 : Int32) d0.toInt64 d1) d2) d3))] (X16.ldc2Long hx hown (mvT hZ (own_w hw 20 rfl)) (g := (mkF m 232 #[.val (.long x0), .second, .val (.long x1), .second, iv x2, iv n5, iv d0, iv d1, iv d2, iv d3, iv d4, iv d5, iv d6, iv d7, .val (.long dw), .second, .val (.long (own_mask n5)), .second, .val (.long wd), .second, .val (.long (own_st n5 (3 : Int32) (own_st n5 (2 : Int32) (own_st n5 (1 : Int32) d0.toInt64 d1) d2) d3)), .second] [(.long (own_st n5 (3 : Int32) (own_st n5 (2 : Int32) (own_st n5 (1 : Int32) d0.toInt64 d1) d2) d3))])) rfl (hb hby at_232)) ?_
            refine own_go T16 m 236 #[.val (.long x0), .second, .val (.long x1), .second, iv x2, iv n5, iv d0, iv d1, iv d2, iv d3, iv d4, iv d5, iv d6, iv d7, .val (.long dw), .second, .val (.long (own_mask n5)), .second, .val (.long wd), .second, .val (.long (own_st n5 (3 : Int32) (own_st n5 (2 : Int32) (own_st n5 (1 : Int32) d0.toInt64 d1) d2) d3)), .second] [(.long ((own_st n5 (3 : Int32) (own_st n5 (2 : Int32) (own_st n5 (1 : Int32) d0.toInt64 d1) d2) d3) * (10 : Int64)))] (fun t k => XS.lmul X16.here hx rfl (hb hby at_235) rfl k) ?_
            refine own_go T16 m 238 #[.val (.long x0), .second, .val (.long x1), .second, iv x2, iv n5, iv d0, iv d1, iv d2, iv d3, iv d4, iv d5, iv d6, iv d7, .val (.long dw), .second, .val (.long (own_mask n5)), .second, .val (.long wd), .second, .val (.long (own_st n5 (3 : Int32) (own_st n5 (2 : Int32) (own_st n5 (1 : Int32) d0.toInt64 d1) d2) d3)), .second] [(.int d4), (.long ((own_st n5 (3 : Int32) (own_st n5 (2 : Int32) (own_st n5 (1 : Int32) d0.toInt64 d1) d2) d3) * (10 : Int64)))] (fun t k => XS.iload X16.here hx rfl (hb hby at_236) rfl k) ?_
            refine own_go T16 m 239 #[.val (.long x0), .second, .val (.long x1), .second, iv x2, iv n5, iv d0, iv d1, iv d2, iv d3, iv d4, iv d5, iv d6, iv d7, .val (.long dw), .second, .val (.long (own_mask n5)), .second, .val (.long wd), .second, .val (.long (own_st n5 (3 : Int32) (own_st n5 (2 : Int32) (own_st n5 (1 : Int32) d0.toInt64 d1) d2) d3)), .second] [(.long d4.toInt64), (.long ((own_st n5 (3 : Int32) (own_st n5 (2 : Int32) (own_st n5 (1 : Int32) d0.toInt64 d1) d2) d3) * (10 : Int64)))] (fun t k => XS.i2l X16.here hx rfl (hb hby at_238) rfl k) ?_
            refine own_go T16 m 240 #[.val (.long x0), .second, .val (.long x1), .second, iv x2, iv n5, iv d0, iv d1, iv d2, iv d3, iv d4, iv d5, iv d6, iv d7, .val (.long dw), .second, .val (.long (own_mask n5)), .second, .val (.long wd), .second, .val (.long (own_st n5 (3 : Int32) (own_st n5 (2 : Int32) (own_st n5 (1 : Int32) d0.toInt64 d1) d2) d3)), .second] [(.long (((own_st n5 (3 : Int32) (own_st n5 (2 : Int32) (own_st n5 (1 : Int32) d0.toInt64 d1) d2) d3) * (10 : Int64)) + d4.toInt64))] (fun t k => XS.ladd X16.here hx rfl (hb hby at_239) rfl k) ?_
            refine own_go T16 m 242 #[.val (.long x0), .second, .val (.long x1), .second, iv x2, iv n5, iv d0, iv d1, iv d2, iv d3, iv d4, iv d5, iv d6, iv d7, .val (.long dw), .second, .val (.long (own_mask n5)), .second, .val (.long wd), .second, .val (.long (((own_st n5 (3 : Int32) (own_st n5 (2 : Int32) (own_st n5 (1 : Int32) d0.toInt64 d1) d2) d3) * (10 : Int64)) + d4.toInt64)), .second] [] (fun t k => XS.lstore X16.here hx rfl (hb hby at_240) rfl rfl k) ?_
            have hst : (own_st n5 (4 : Int32) (own_st n5 (3 : Int32) (own_st n5 (2 : Int32) (own_st n5 (1 : Int32) d0.toInt64 d1) d2) d3) d4) = (((own_st n5 (3 : Int32) (own_st n5 (2 : Int32) (own_st n5 (1 : Int32) d0.toInt64 d1) d2) d3) * (10 : Int64)) + d4.toInt64) := by simp [own_st, hc227_29]
            rw [hst] at seg242
            exact seg242
          · refine own_go T16 m 242 #[.val (.long x0), .second, .val (.long x1), .second, iv x2, iv n5, iv d0, iv d1, iv d2, iv d3, iv d4, iv d5, iv d6, iv d7, .val (.long dw), .second, .val (.long (own_mask n5)), .second, .val (.long wd), .second, .val (.long (own_st n5 (3 : Int32) (own_st n5 (2 : Int32) (own_st n5 (1 : Int32) d0.toInt64 d1) d2) d3)), .second] [] (fun t k => XS.icmpYes X16.here hx rfl (pc0 := 227) (pc' := 242) rfl (hb hby at_227) rfl (flt hc227_29).2.2.2 (by decide) (by decide) k) ?_
            have hst : (own_st n5 (4 : Int32) (own_st n5 (3 : Int32) (own_st n5 (2 : Int32) (own_st n5 (1 : Int32) d0.toInt64 d1) d2) d3) d4) = (own_st n5 (3 : Int32) (own_st n5 (2 : Int32) (own_st n5 (1 : Int32) d0.toInt64 d1) d2) d3) := by simp [own_st, hc227_29]
            rw [hst] at seg242
            exact seg242
        by_cases hc209_30 : (3 : Int32) < n5
        · refine own_go T16 m 212 #[.val (.long x0), .second, .val (.long x1), .second, iv x2, iv n5, iv d0, iv d1, iv d2, iv d3, iv d4, iv d5, iv d6, iv d7, .val (.long dw), .second, .val (.long (own_mask n5)), .second, .val (.long wd), .second, .val (.long (own_st n5 (2 : Int32) (own_st n5 (1 : Int32) d0.toInt64 d1) d2)), .second] [] (fun t k => XS.icmpNo X16.here hx rfl (hb hby at_209) rfl (tlt hc209_30).2.2.2 k) ?_
          refine own_go T16 m 214 #[.val (.long x0), .second, .val (.long x1), .second, iv x2, iv n5, iv d0, iv d1, iv d2, iv d3, iv d4, iv d5, iv d6, iv d7, .val (.long dw), .second, .val (.long (own_mask n5)), .second, .val (.long wd), .second, .val (.long (own_st n5 (2 : Int32) (own_st n5 (1 : Int32) d0.toInt64 d1) d2)), .second] [(.long (own_st n5 (2 : Int32) (own_st n5 (1 : Int32) d0.toInt64 d1) d2))] (fun t k => XS.lload X16.here hx rfl (hb hby at_212) rfl k) ?_
          refine own_go T16 m 217 #[.val (.long x0), .second, .val (.long x1), .second, iv x2, iv n5, iv d0, iv d1, iv d2, iv d3, iv d4, iv d5, iv d6, iv d7, .val (.long dw), .second, .val (.long (own_mask n5)), .second, .val (.long wd), .second, .val (.long (own_st n5 (2 : Int32) (own_st n5 (1 : Int32) d0.toInt64 d1) d2)), .second] [(.long 10), (.long (own_st n5 (2 : Int32) (own_st n5 (1 : Int32) d0.toInt64 d1) d2))] (X16.ldc2Long hx hown (mvT hZ (own_w hw 20 rfl)) (g := (mkF m 214 #[.val (.long x0), .second, .val (.long x1), .second, iv x2, iv n5, iv d0, iv d1, iv d2, iv d3, iv d4, iv d5, iv d6, iv d7, .val (.long dw), .second, .val (.long (own_mask n5)), .second, .val (.long wd), .second, .val (.long (own_st n5 (2 : Int32) (own_st n5 (1 : Int32) d0.toInt64 d1) d2)), .second] [(.long (own_st n5 (2 : Int32) (own_st n5 (1 : Int32) d0.toInt64 d1) d2))])) rfl (hb hby at_214)) ?_
          refine own_go T16 m 218 #[.val (.long x0), .second, .val (.long x1), .second, iv x2, iv n5, iv d0, iv d1, iv d2, iv d3, iv d4, iv d5, iv d6, iv d7, .val (.long dw), .second, .val (.long (own_mask n5)), .second, .val (.long wd), .second, .val (.long (own_st n5 (2 : Int32) (own_st n5 (1 : Int32) d0.toInt64 d1) d2)), .second] [(.long ((own_st n5 (2 : Int32) (own_st n5 (1 : Int32) d0.toInt64 d1) d2) * (10 : Int64)))] (fun t k => XS.lmul X16.here hx rfl (hb hby at_217) rfl k) ?_
          refine own_go T16 m 220 #[.val (.long x0), .second, .val (.long x1), .second, iv x2, iv n5, iv d0, iv d1, iv d2, iv d3, iv d4, iv d5, iv d6, iv d7, .val (.long dw), .second, .val (.long (own_mask n5)), .second, .val (.long wd), .second, .val (.long (own_st n5 (2 : Int32) (own_st n5 (1 : Int32) d0.toInt64 d1) d2)), .second] [(.int d3), (.long ((own_st n5 (2 : Int32) (own_st n5 (1 : Int32) d0.toInt64 d1) d2) * (10 : Int64)))] (fun t k => XS.iload X16.here hx rfl (hb hby at_218) rfl k) ?_
          refine own_go T16 m 221 #[.val (.long x0), .second, .val (.long x1), .second, iv x2, iv n5, iv d0, iv d1, iv d2, iv d3, iv d4, iv d5, iv d6, iv d7, .val (.long dw), .second, .val (.long (own_mask n5)), .second, .val (.long wd), .second, .val (.long (own_st n5 (2 : Int32) (own_st n5 (1 : Int32) d0.toInt64 d1) d2)), .second] [(.long d3.toInt64), (.long ((own_st n5 (2 : Int32) (own_st n5 (1 : Int32) d0.toInt64 d1) d2) * (10 : Int64)))] (fun t k => XS.i2l X16.here hx rfl (hb hby at_220) rfl k) ?_
          refine own_go T16 m 222 #[.val (.long x0), .second, .val (.long x1), .second, iv x2, iv n5, iv d0, iv d1, iv d2, iv d3, iv d4, iv d5, iv d6, iv d7, .val (.long dw), .second, .val (.long (own_mask n5)), .second, .val (.long wd), .second, .val (.long (own_st n5 (2 : Int32) (own_st n5 (1 : Int32) d0.toInt64 d1) d2)), .second] [(.long (((own_st n5 (2 : Int32) (own_st n5 (1 : Int32) d0.toInt64 d1) d2) * (10 : Int64)) + d3.toInt64))] (fun t k => XS.ladd X16.here hx rfl (hb hby at_221) rfl k) ?_
          refine own_go T16 m 224 #[.val (.long x0), .second, .val (.long x1), .second, iv x2, iv n5, iv d0, iv d1, iv d2, iv d3, iv d4, iv d5, iv d6, iv d7, .val (.long dw), .second, .val (.long (own_mask n5)), .second, .val (.long wd), .second, .val (.long (((own_st n5 (2 : Int32) (own_st n5 (1 : Int32) d0.toInt64 d1) d2) * (10 : Int64)) + d3.toInt64)), .second] [] (fun t k => XS.lstore X16.here hx rfl (hb hby at_222) rfl rfl k) ?_
          have hst : (own_st n5 (3 : Int32) (own_st n5 (2 : Int32) (own_st n5 (1 : Int32) d0.toInt64 d1) d2) d3) = (((own_st n5 (2 : Int32) (own_st n5 (1 : Int32) d0.toInt64 d1) d2) * (10 : Int64)) + d3.toInt64) := by simp [own_st, hc209_30]
          rw [hst] at seg224
          exact seg224
        · refine own_go T16 m 224 #[.val (.long x0), .second, .val (.long x1), .second, iv x2, iv n5, iv d0, iv d1, iv d2, iv d3, iv d4, iv d5, iv d6, iv d7, .val (.long dw), .second, .val (.long (own_mask n5)), .second, .val (.long wd), .second, .val (.long (own_st n5 (2 : Int32) (own_st n5 (1 : Int32) d0.toInt64 d1) d2)), .second] [] (fun t k => XS.icmpYes X16.here hx rfl (pc0 := 209) (pc' := 224) rfl (hb hby at_209) rfl (flt hc209_30).2.2.2 (by decide) (by decide) k) ?_
          have hst : (own_st n5 (3 : Int32) (own_st n5 (2 : Int32) (own_st n5 (1 : Int32) d0.toInt64 d1) d2) d3) = (own_st n5 (2 : Int32) (own_st n5 (1 : Int32) d0.toInt64 d1) d2) := by simp [own_st, hc209_30]
          rw [hst] at seg224
          exact seg224
      by_cases hc191_31 : (2 : Int32) < n5
      · refine own_go T16 m 194 #[.val (.long x0), .second, .val (.long x1), .second, iv x2, iv n5, iv d0, iv d1, iv d2, iv d3, iv d4, iv d5, iv d6, iv d7, .val (.long dw), .second, .val (.long (own_mask n5)), .second, .val (.long wd), .second, .val (.long (own_st n5 (1 : Int32) d0.toInt64 d1)), .second] [] (fun t k => XS.icmpNo X16.here hx rfl (hb hby at_191) rfl (tlt hc191_31).2.2.2 k) ?_
        refine own_go T16 m 196 #[.val (.long x0), .second, .val (.long x1), .second, iv x2, iv n5, iv d0, iv d1, iv d2, iv d3, iv d4, iv d5, iv d6, iv d7, .val (.long dw), .second, .val (.long (own_mask n5)), .second, .val (.long wd), .second, .val (.long (own_st n5 (1 : Int32) d0.toInt64 d1)), .second] [(.long (own_st n5 (1 : Int32) d0.toInt64 d1))] (fun t k => XS.lload X16.here hx rfl (hb hby at_194) rfl k) ?_
        refine own_go T16 m 199 #[.val (.long x0), .second, .val (.long x1), .second, iv x2, iv n5, iv d0, iv d1, iv d2, iv d3, iv d4, iv d5, iv d6, iv d7, .val (.long dw), .second, .val (.long (own_mask n5)), .second, .val (.long wd), .second, .val (.long (own_st n5 (1 : Int32) d0.toInt64 d1)), .second] [(.long 10), (.long (own_st n5 (1 : Int32) d0.toInt64 d1))] (X16.ldc2Long hx hown (mvT hZ (own_w hw 20 rfl)) (g := (mkF m 196 #[.val (.long x0), .second, .val (.long x1), .second, iv x2, iv n5, iv d0, iv d1, iv d2, iv d3, iv d4, iv d5, iv d6, iv d7, .val (.long dw), .second, .val (.long (own_mask n5)), .second, .val (.long wd), .second, .val (.long (own_st n5 (1 : Int32) d0.toInt64 d1)), .second] [(.long (own_st n5 (1 : Int32) d0.toInt64 d1))])) rfl (hb hby at_196)) ?_
        refine own_go T16 m 200 #[.val (.long x0), .second, .val (.long x1), .second, iv x2, iv n5, iv d0, iv d1, iv d2, iv d3, iv d4, iv d5, iv d6, iv d7, .val (.long dw), .second, .val (.long (own_mask n5)), .second, .val (.long wd), .second, .val (.long (own_st n5 (1 : Int32) d0.toInt64 d1)), .second] [(.long ((own_st n5 (1 : Int32) d0.toInt64 d1) * (10 : Int64)))] (fun t k => XS.lmul X16.here hx rfl (hb hby at_199) rfl k) ?_
        refine own_go T16 m 202 #[.val (.long x0), .second, .val (.long x1), .second, iv x2, iv n5, iv d0, iv d1, iv d2, iv d3, iv d4, iv d5, iv d6, iv d7, .val (.long dw), .second, .val (.long (own_mask n5)), .second, .val (.long wd), .second, .val (.long (own_st n5 (1 : Int32) d0.toInt64 d1)), .second] [(.int d2), (.long ((own_st n5 (1 : Int32) d0.toInt64 d1) * (10 : Int64)))] (fun t k => XS.iload X16.here hx rfl (hb hby at_200) rfl k) ?_
        refine own_go T16 m 203 #[.val (.long x0), .second, .val (.long x1), .second, iv x2, iv n5, iv d0, iv d1, iv d2, iv d3, iv d4, iv d5, iv d6, iv d7, .val (.long dw), .second, .val (.long (own_mask n5)), .second, .val (.long wd), .second, .val (.long (own_st n5 (1 : Int32) d0.toInt64 d1)), .second] [(.long d2.toInt64), (.long ((own_st n5 (1 : Int32) d0.toInt64 d1) * (10 : Int64)))] (fun t k => XS.i2l X16.here hx rfl (hb hby at_202) rfl k) ?_
        refine own_go T16 m 204 #[.val (.long x0), .second, .val (.long x1), .second, iv x2, iv n5, iv d0, iv d1, iv d2, iv d3, iv d4, iv d5, iv d6, iv d7, .val (.long dw), .second, .val (.long (own_mask n5)), .second, .val (.long wd), .second, .val (.long (own_st n5 (1 : Int32) d0.toInt64 d1)), .second] [(.long (((own_st n5 (1 : Int32) d0.toInt64 d1) * (10 : Int64)) + d2.toInt64))] (fun t k => XS.ladd X16.here hx rfl (hb hby at_203) rfl k) ?_
        refine own_go T16 m 206 #[.val (.long x0), .second, .val (.long x1), .second, iv x2, iv n5, iv d0, iv d1, iv d2, iv d3, iv d4, iv d5, iv d6, iv d7, .val (.long dw), .second, .val (.long (own_mask n5)), .second, .val (.long wd), .second, .val (.long (((own_st n5 (1 : Int32) d0.toInt64 d1) * (10 : Int64)) + d2.toInt64)), .second] [] (fun t k => XS.lstore X16.here hx rfl (hb hby at_204) rfl rfl k) ?_
        have hst : (own_st n5 (2 : Int32) (own_st n5 (1 : Int32) d0.toInt64 d1) d2) = (((own_st n5 (1 : Int32) d0.toInt64 d1) * (10 : Int64)) + d2.toInt64) := by simp [own_st, hc191_31]
        rw [hst] at seg206
        exact seg206
      · refine own_go T16 m 206 #[.val (.long x0), .second, .val (.long x1), .second, iv x2, iv n5, iv d0, iv d1, iv d2, iv d3, iv d4, iv d5, iv d6, iv d7, .val (.long dw), .second, .val (.long (own_mask n5)), .second, .val (.long wd), .second, .val (.long (own_st n5 (1 : Int32) d0.toInt64 d1)), .second] [] (fun t k => XS.icmpYes X16.here hx rfl (pc0 := 191) (pc' := 206) rfl (hb hby at_191) rfl (flt hc191_31).2.2.2 (by decide) (by decide) k) ?_
        have hst : (own_st n5 (2 : Int32) (own_st n5 (1 : Int32) d0.toInt64 d1) d2) = (own_st n5 (1 : Int32) d0.toInt64 d1) := by simp [own_st, hc191_31]
        rw [hst] at seg206
        exact seg206
    by_cases hc173_32 : (1 : Int32) < n5
    · refine own_go T16 m 176 #[.val (.long x0), .second, .val (.long x1), .second, iv x2, iv n5, iv d0, iv d1, iv d2, iv d3, iv d4, iv d5, iv d6, iv d7, .val (.long dw), .second, .val (.long (own_mask n5)), .second, .val (.long wd), .second, .val (.long d0.toInt64), .second] [] (fun t k => XS.icmpNo X16.here hx rfl (hb hby at_173) rfl (tlt hc173_32).2.2.2 k) ?_
      refine own_go T16 m 178 #[.val (.long x0), .second, .val (.long x1), .second, iv x2, iv n5, iv d0, iv d1, iv d2, iv d3, iv d4, iv d5, iv d6, iv d7, .val (.long dw), .second, .val (.long (own_mask n5)), .second, .val (.long wd), .second, .val (.long d0.toInt64), .second] [(.long d0.toInt64)] (fun t k => XS.lload X16.here hx rfl (hb hby at_176) rfl k) ?_
      refine own_go T16 m 181 #[.val (.long x0), .second, .val (.long x1), .second, iv x2, iv n5, iv d0, iv d1, iv d2, iv d3, iv d4, iv d5, iv d6, iv d7, .val (.long dw), .second, .val (.long (own_mask n5)), .second, .val (.long wd), .second, .val (.long d0.toInt64), .second] [(.long 10), (.long d0.toInt64)] (X16.ldc2Long hx hown (mvT hZ (own_w hw 20 rfl)) (g := (mkF m 178 #[.val (.long x0), .second, .val (.long x1), .second, iv x2, iv n5, iv d0, iv d1, iv d2, iv d3, iv d4, iv d5, iv d6, iv d7, .val (.long dw), .second, .val (.long (own_mask n5)), .second, .val (.long wd), .second, .val (.long d0.toInt64), .second] [(.long d0.toInt64)])) rfl (hb hby at_178)) ?_
      refine own_go T16 m 182 #[.val (.long x0), .second, .val (.long x1), .second, iv x2, iv n5, iv d0, iv d1, iv d2, iv d3, iv d4, iv d5, iv d6, iv d7, .val (.long dw), .second, .val (.long (own_mask n5)), .second, .val (.long wd), .second, .val (.long d0.toInt64), .second] [(.long (d0.toInt64 * (10 : Int64)))] (fun t k => XS.lmul X16.here hx rfl (hb hby at_181) rfl k) ?_
      refine own_go T16 m 184 #[.val (.long x0), .second, .val (.long x1), .second, iv x2, iv n5, iv d0, iv d1, iv d2, iv d3, iv d4, iv d5, iv d6, iv d7, .val (.long dw), .second, .val (.long (own_mask n5)), .second, .val (.long wd), .second, .val (.long d0.toInt64), .second] [(.int d1), (.long (d0.toInt64 * (10 : Int64)))] (fun t k => XS.iload X16.here hx rfl (hb hby at_182) rfl k) ?_
      refine own_go T16 m 185 #[.val (.long x0), .second, .val (.long x1), .second, iv x2, iv n5, iv d0, iv d1, iv d2, iv d3, iv d4, iv d5, iv d6, iv d7, .val (.long dw), .second, .val (.long (own_mask n5)), .second, .val (.long wd), .second, .val (.long d0.toInt64), .second] [(.long d1.toInt64), (.long (d0.toInt64 * (10 : Int64)))] (fun t k => XS.i2l X16.here hx rfl (hb hby at_184) rfl k) ?_
      refine own_go T16 m 186 #[.val (.long x0), .second, .val (.long x1), .second, iv x2, iv n5, iv d0, iv d1, iv d2, iv d3, iv d4, iv d5, iv d6, iv d7, .val (.long dw), .second, .val (.long (own_mask n5)), .second, .val (.long wd), .second, .val (.long d0.toInt64), .second] [(.long ((d0.toInt64 * (10 : Int64)) + d1.toInt64))] (fun t k => XS.ladd X16.here hx rfl (hb hby at_185) rfl k) ?_
      refine own_go T16 m 188 #[.val (.long x0), .second, .val (.long x1), .second, iv x2, iv n5, iv d0, iv d1, iv d2, iv d3, iv d4, iv d5, iv d6, iv d7, .val (.long dw), .second, .val (.long (own_mask n5)), .second, .val (.long wd), .second, .val (.long ((d0.toInt64 * (10 : Int64)) + d1.toInt64)), .second] [] (fun t k => XS.lstore X16.here hx rfl (hb hby at_186) rfl rfl k) ?_
      have hst : (own_st n5 (1 : Int32) d0.toInt64 d1) = ((d0.toInt64 * (10 : Int64)) + d1.toInt64) := by simp [own_st, hc173_32]
      rw [hst] at seg188
      exact seg188
    · refine own_go T16 m 188 #[.val (.long x0), .second, .val (.long x1), .second, iv x2, iv n5, iv d0, iv d1, iv d2, iv d3, iv d4, iv d5, iv d6, iv d7, .val (.long dw), .second, .val (.long (own_mask n5)), .second, .val (.long wd), .second, .val (.long d0.toInt64), .second] [] (fun t k => XS.icmpYes X16.here hx rfl (pc0 := 173) (pc' := 188) rfl (hb hby at_173) rfl (flt hc173_32).2.2.2 (by decide) (by decide) k) ?_
      have hst : (own_st n5 (1 : Int32) d0.toInt64 d1) = d0.toInt64 := by simp [own_st, hc173_32]
      rw [hst] at seg188
      exact seg188
  by_cases hc130_33 : n5 = (8 : Int32)
  · refine own_go T16 m 133 #[.val (.long x0), .second, .val (.long x1), .second, iv x2, iv n5, iv d0, iv d1, iv d2, iv d3, iv d4, iv d5, iv d6, iv d7, .val (.long dw), .second, .unset, .unset, .unset, .unset, .unset, .unset] [] (fun t k => XS.icmpNo X16.here hx rfl (hb hby at_130) rfl (teq hc130_33).2 k) ?_
    refine own_go T16 m 136 #[.val (.long x0), .second, .val (.long x1), .second, iv x2, iv n5, iv d0, iv d1, iv d2, iv d3, iv d4, iv d5, iv d6, iv d7, .val (.long dw), .second, .unset, .unset, .unset, .unset, .unset, .unset] [(.long (-1))] (X16.ldc2Long hx hown (mvT hZ (own_w hw 8 rfl)) (g := (mkF m 133 #[.val (.long x0), .second, .val (.long x1), .second, iv x2, iv n5, iv d0, iv d1, iv d2, iv d3, iv d4, iv d5, iv d6, iv d7, .val (.long dw), .second, .unset, .unset, .unset, .unset, .unset, .unset] [])) rfl (hb hby at_133)) ?_
    refine own_go T16 m 147 #[.val (.long x0), .second, .val (.long x1), .second, iv x2, iv n5, iv d0, iv d1, iv d2, iv d3, iv d4, iv d5, iv d6, iv d7, .val (.long dw), .second, .unset, .unset, .unset, .unset, .unset, .unset] [(.long (-1))] (fun t k => XS.goto X16.here hx rfl (pc0 := 136) (pc' := 147) rfl (hb hby at_136) (by decide) (by decide) k) ?_
    refine own_go T16 m 149 #[.val (.long x0), .second, .val (.long x1), .second, iv x2, iv n5, iv d0, iv d1, iv d2, iv d3, iv d4, iv d5, iv d6, iv d7, .val (.long dw), .second, .val (.long (-1)), .second, .unset, .unset, .unset, .unset] [] (fun t k => XS.lstore X16.here hx rfl (hb hby at_147) rfl rfl k) ?_
    have hmk : own_mask n5 = (-1 : Int64) := by simp [own_mask, hc130_33]
    rw [hmk] at seg149
    exact seg149
  · refine own_go T16 m 139 #[.val (.long x0), .second, .val (.long x1), .second, iv x2, iv n5, iv d0, iv d1, iv d2, iv d3, iv d4, iv d5, iv d6, iv d7, .val (.long dw), .second, .unset, .unset, .unset, .unset, .unset, .unset] [] (fun t k => XS.icmpYes X16.here hx rfl (pc0 := 130) (pc' := 139) rfl (hb hby at_130) rfl (feq hc130_33).2 (by decide) (by decide) k) ?_
    refine own_go T16 m 140 #[.val (.long x0), .second, .val (.long x1), .second, iv x2, iv n5, iv d0, iv d1, iv d2, iv d3, iv d4, iv d5, iv d6, iv d7, .val (.long dw), .second, .unset, .unset, .unset, .unset, .unset, .unset] [(.long 1)] (fun t k => XS.lconst X16.here hx rfl (hb hby at_139) k) ?_
    refine own_go T16 m 142 #[.val (.long x0), .second, .val (.long x1), .second, iv x2, iv n5, iv d0, iv d1, iv d2, iv d3, iv d4, iv d5, iv d6, iv d7, .val (.long dw), .second, .unset, .unset, .unset, .unset, .unset, .unset] [(.int n5), (.long 1)] (fun t k => XS.iload X16.here hx rfl (hb hby at_140) rfl k) ?_
    refine own_go T16 m 143 #[.val (.long x0), .second, .val (.long x1), .second, iv x2, iv n5, iv d0, iv d1, iv d2, iv d3, iv d4, iv d5, iv d6, iv d7, .val (.long dw), .second, .unset, .unset, .unset, .unset, .unset, .unset] [(.int 3), (.int n5), (.long 1)] (fun t k => XS.iconst X16.here hx rfl (hb hby at_142) k) ?_
    refine own_go T16 m 144 #[.val (.long x0), .second, .val (.long x1), .second, iv x2, iv n5, iv d0, iv d1, iv d2, iv d3, iv d4, iv d5, iv d6, iv d7, .val (.long dw), .second, .unset, .unset, .unset, .unset, .unset, .unset] [(.int (n5 <<< ((3 : Int32) &&& 31))), (.long 1)] (fun t k => XS.ishl X16.here hx rfl (hb hby at_143) rfl k) ?_
    refine own_go T16 m 145 #[.val (.long x0), .second, .val (.long x1), .second, iv x2, iv n5, iv d0, iv d1, iv d2, iv d3, iv d4, iv d5, iv d6, iv d7, .val (.long dw), .second, .unset, .unset, .unset, .unset, .unset, .unset] [(.long ((1 : Int64) <<< ((n5 <<< ((3 : Int32) &&& 31)) &&& 0x3f).toInt64))] (fun t k => XS.lshl X16.here hx rfl (hb hby at_144) rfl k) ?_
    refine own_go T16 m 146 #[.val (.long x0), .second, .val (.long x1), .second, iv x2, iv n5, iv d0, iv d1, iv d2, iv d3, iv d4, iv d5, iv d6, iv d7, .val (.long dw), .second, .unset, .unset, .unset, .unset, .unset, .unset] [(.long 1), (.long ((1 : Int64) <<< ((n5 <<< ((3 : Int32) &&& 31)) &&& 0x3f).toInt64))] (fun t k => XS.lconst X16.here hx rfl (hb hby at_145) k) ?_
    refine own_go T16 m 147 #[.val (.long x0), .second, .val (.long x1), .second, iv x2, iv n5, iv d0, iv d1, iv d2, iv d3, iv d4, iv d5, iv d6, iv d7, .val (.long dw), .second, .unset, .unset, .unset, .unset, .unset, .unset] [(.long (((1 : Int64) <<< ((n5 <<< ((3 : Int32) &&& 31)) &&& 0x3f).toInt64) - (1 : Int64)))] (fun t k => XS.lsub X16.here hx rfl (hb hby at_146) rfl k) ?_
    refine own_go T16 m 149 #[.val (.long x0), .second, .val (.long x1), .second, iv x2, iv n5, iv d0, iv d1, iv d2, iv d3, iv d4, iv d5, iv d6, iv d7, .val (.long dw), .second, .val (.long (((1 : Int64) <<< ((n5 <<< ((3 : Int32) &&& 31)) &&& 0x3f).toInt64) - (1 : Int64))), .second, .unset, .unset, .unset, .unset] [] (fun t k => XS.lstore X16.here hx rfl (hb hby at_147) rfl rfl k) ?_
    have hmk : own_mask n5 = (((1 : Int64) <<< ((n5 <<< ((3 : Int32) &&& 31)) &&& 0x3f).toInt64) - (1 : Int64)) := by simp [own_mask, hc130_33]
    rw [hmk] at seg149
    exact seg149
set_option maxRecDepth 65536 in
set_option maxHeartbeats 40000000 in
theorem comes_1 {Post : Tables → Env → Array Value → State → Outcome → State → Prop} (hpost : ∀ tb e args s v u, (limb_1_1.after args s (.returned v) u = true ∧ limb_1_2.after args s (.returned v) u = true ∧ True) → FrameEnd s (.returned v) u (Jvm.fieldLocs frame_1_writes args s ++ Jvm.arrayLocs frame_1_arrays args s ++ Jvm.staticLocs frame_1_statics s) 0 0 → Post tb e args s (.returned v) u) :
    ArmFor flags0 classFile x code maxLocals ret World_1 tables_1 room_1 Calls_1 rest_1 Pre_1 Post := by
  intro l hfl _ _ p e ha hc hk s m args below hf hA hF happ hP
  obtain ⟨hcalls, hrest, hpre⟩ := hP
  obtain ⟨-, -, -, hnamed, -, -, -, hat⟩ := (Spec.applies_iff hf).mp happ
  obtain ⟨hg, hn⟩ := and_e (Cond.before_iff.mp (show (Jvm.Cond.and given_1 narrow_1).before args s = true from hpre))
  obtain ⟨gg1, gg2⟩ := and_e hg
  obtain ⟨gg3, gg4⟩ := and_e gg2
  obtain ⟨gg5, gg6⟩ := and_e gg4
  obtain ⟨w0, w1, w2, rfl⟩ : ∃ w0 w1 w2 : Value, args = #[w0, w1, w2] := by
    have hs : args.size = 3 := by simpa [Cond.value, given_1] using gg1
    obtain ⟨L⟩ := args
    match L, hs with
    | [w0, w1, w2], _ => exact ⟨w0, w1, w2, rfl⟩
  have hw := fun d (hd : d ∈ tables_1) => atoms_spec (ws := Jvm.Cond.code x code maxLocals ret :: tables_1) hat d (List.mem_cons_of_mem _ hd)
  have hfit : Fit s := fun {y c} hc i hi => by
    obtain ⟨ha, rfl⟩ := Array.getElem?_eq_some_iff.mp hc
    have q := List.all_eq_true.mp ((Array.all_eq_true_iff_forall_mem.mp hF) _ (Array.getElem_mem ha)) i (List.mem_range.mpr hi)
    simpa [Array.getElem?_eq_getElem hi] using q
  obtain ⟨i0, ei0⟩ := isL_v gg3
  obtain rfl : w0 = (.long i0) := Option.some.inj ei0
  obtain ⟨i1, ei1⟩ := isL_v gg5
  obtain rfl : w1 = (.long i1) := Option.some.inj ei1
  obtain ⟨i2, ei2⟩ := is_v gg6
  obtain rfl : w2 = (.int i2) := Option.some.inj ei2
  obtain ⟨n, o, h1, h2, h3, _, L, rfl, ⟨rfl, N⟩, hq⟩ := rm0 l s _ hw tables_1 i0 i1 i2 s.heap s.heap.size (Nat.le_refl _) p e ha hc hk s m _ below hf ((Spec.applies_iff_loose hf).mp happ).1 ⟨rfl, State.Warmed39.refl s, rfl⟩ trivial
  refine ⟨n, _, h1, h2, h3, hpost _ _ _ _ _ _ ⟨Cond.after_iff.mpr rfl, Cond.after_iff.mpr (eq_i res_at (Term.int_eval (1)) rfl), trivial⟩ ⟨hq.1, hq.2.1, (hq.2.2.sift fun y hy => Or.inr (N y hy)).mono (by decide) (by decide)⟩⟩
theorem main_1_1 : Claimed_1_1 := comes_1 fun _ _ _ _ _ _ h hF => ⟨h.1, hF⟩
theorem main_1_2 : Claimed_1_2 := comes_1 fun _ _ _ _ _ _ h hF => ⟨h.2.1, hF⟩
end Jvm.Pilot.@@N@@
namespace Jvm.Pilot.@@N@@
open Jvm Jvm.ClassFile Sem Op Lib Jvm.Free Jvm.Stand Jvm.Pilot.@@N@@.Jvm.D
/-! MADE BY PROGRAM (witnessworld.py) out of the Statement's table words and the real class files: 9 classes; the members and pool entries that the words name. The judged class is class 1, her method 1. -/
namespace start1
open Jvm.ClassFile
def u (s : String) : CpInfo := .utf8 (stringToUtf16 s)
/-- a pool by its gaps: so many unusable entries, then the entry; so many at the end -/
def gap : Nat → List CpInfo → List CpInfo
  | 0, r => r
  | n + 1, r => .unusable :: gap n r
def poolList (es : List (Nat × CpInfo)) (last : Nat) : List CpInfo := es.foldr (fun e r => gap e.1 (e.2 :: r)) (gap last [])
def pool (es : List (Nat × CpInfo)) (last : Nat) : Array CpInfo := ⟨poolList es last⟩
def fileOf (pool : Array CpInfo) (this : Nat) (attrs : Array Attribute := #[]) (ms : Array MethodInfo := #[]) (fl : Nat := 33) (sup : Nat := 0) (ifs : Array Nat := #[]) (fds : Array FieldInfo := #[]) : ClassFile where
  minorVersion := 0
  majorVersion := 65
  constantPool := pool
  accessFlags := fl
  thisClass := this
  superClass := sup
  interfaces := ifs
  fields := fds
  methods := ms
  attributes := attrs
def plain (name : String) (sup : Option ClassId) : Class where
  name := name
  kind := .ordinary
  loader := none
  accessFlags := 33
  super := sup
  interfaces := #[]
  cf := none
  fields := #[]
  methods := #[]
  instanceTypes := #[]
  staticTypes := #[]
  resolved := #[]
  callSites := []
  init := .initialized
  statics := none
  mirror := none

def pool0 : Array CpInfo := pool [(5, u "<init>"), (0, u "()V"), (1, .class_ 10), (1, u "java/lang/Object")] 113

def k0m0 : Method := { name := "<init>", desc := "()V", sig := { parameters := [], returnType := none }, accessFlags := 1, code := none }
/-- java/lang/Object -/
def k0 : Class := { plain "java/lang/Object" none with
  accessFlags := 33
  interfaces := #[]
  cf := some (fileOf pool0 8 #[] #[{ accessFlags := 1, nameIndex := 5, descriptorIndex := 6, attributes := #[] }] 33 0 #[] #[])
  fields := #[]
  methods := #[k0m0]
  instanceTypes := #[]
  staticTypes := #[]
  resolved := Array.replicate 124 none
  statics := none }

def pool1 : Array CpInfo := pool [(2, .class_ 4), (1, u "java/lang/Object"), (0, u "<init>"), (0, u "()V"), (0, .methodref 8 9), (0, .class_ 10), (0, .nameAndType 11 12), (0, u "org/orderloom/fix/ByteWordsNumberPinLaw"), (0, u "digit"), (0, u "(JI)I"), (0, .methodref 8 14), (0, .nameAndType 15 16), (0, u "at"), (0, u "(II)J"), (0, .long 18446744073709551615), (1, .long 10), (1, .methodref 22 23), (0, .class_ 24), (0, .nameAndType 25 26), (0, u "org/orderloom/fix/ByteWords"), (0, u "number"), (0, u "(JI)J"), (0, .long 15), (3, u "law"), (0, u "(JJI)Z")] 3

def k1m0 : Method := { name := "<init>", desc := "()V", sig := { parameters := [], returnType := none }, accessFlags := 1, code := none }
def k1c1 : Code := { maxStack := 8, maxLocals := 22, code := code, exceptionTable := #[], attributes := #[] }
def k1m1 : Method := { name := "law", desc := "(JJI)Z", sig := { parameters := [.long, .long, .int], returnType := some .boolean }, accessFlags := 9, code := some k1c1 }
def k1c2 : Code := { maxStack := 4, maxLocals := 3, code := method_3_code, exceptionTable := #[], attributes := #[] }
def k1m2 : Method := { name := "digit", desc := "(JI)I", sig := { parameters := [.long, .int], returnType := some .int }, accessFlags := 10, code := some k1c2 }
def k1c3 : Code := { maxStack := 4, maxLocals := 2, code := method_4_code, exceptionTable := #[], attributes := #[] }
def k1m3 : Method := { name := "at", desc := "(II)J", sig := { parameters := [.int, .int], returnType := some .long }, accessFlags := 10, code := some k1c3 }
/-- org/orderloom/fix/ByteWordsNumberPinLaw -/
def k1 : Class := { plain "org/orderloom/fix/ByteWordsNumberPinLaw" (some 0) with
  accessFlags := 49
  interfaces := #[]
  cf := some (fileOf pool1 8 #[] #[{ accessFlags := 1, nameIndex := 5, descriptorIndex := 6, attributes := #[] }, { accessFlags := 9, nameIndex := 31, descriptorIndex := 32, attributes := #[] }, { accessFlags := 10, nameIndex := 11, descriptorIndex := 12, attributes := #[] }, { accessFlags := 10, nameIndex := 15, descriptorIndex := 16, attributes := #[] }] 49 2 #[] #[])
  fields := #[]
  methods := #[k1m0, k1m1, k1m2, k1m3]
  instanceTypes := #[]
  staticTypes := #[]
  resolved := Array.replicate 36 none
  statics := none }

def pool2 : Array CpInfo := pool [(2, .class_ 4), (1, u "java/lang/Object"), (0, u "<init>"), (0, u "()V"), (1, .class_ 10), (1, u "org/orderloom/fix/ByteWords"), (0, u "WORDS"), (0, u "Ljava/lang/invoke/VarHandle;"), (22, .long 3472328296227680304), (12, .long 10), (1, .long 71777214294589695), (1, .long 100), (1, .long 281470681808895), (1, .long 10000), (1, .long 4294967295), (31, u "ONES"), (0, u "J"), (1, u "HIGH_BITS"), (0, u "LOW_BITS"), (0, u "EVEN_BYTES"), (0, u "WORDS_A_LANE_SUM"), (0, u "I"), (1, u "ZEROS"), (0, u "PAST_NINE"), (0, u "MAX_SHORT_NUMBER_DIGITS"), (10, u "number"), (0, u "(JI)J")] 10

def k2m0 : Method := { name := "<init>", desc := "()V", sig := { parameters := [], returnType := none }, accessFlags := 2, code := none }
def k2c1 : Code := { maxStack := 5, maxLocals := 5, code := prog_43_method_10_code, exceptionTable := #[], attributes := #[] }
def k2m1 : Method := { name := "number", desc := "(JI)J", sig := { parameters := [.long, .int], returnType := some .long }, accessFlags := 8, code := some k2c1 }
/-- org/orderloom/fix/ByteWords -/
def k2 : Class := { plain "org/orderloom/fix/ByteWords" (some 0) with
  accessFlags := 48
  interfaces := #[]
  cf := some (fileOf pool2 8 #[] #[{ accessFlags := 2, nameIndex := 5, descriptorIndex := 6, attributes := #[] }, { accessFlags := 8, nameIndex := 112, descriptorIndex := 113, attributes := #[] }] 48 2 #[] #[{ accessFlags := 26, nameIndex := 11, descriptorIndex := 12, attributes := #[] }, { accessFlags := 26, nameIndex := 90, descriptorIndex := 91, attributes := #[] }, { accessFlags := 26, nameIndex := 93, descriptorIndex := 91, attributes := #[] }, { accessFlags := 26, nameIndex := 94, descriptorIndex := 91, attributes := #[] }, { accessFlags := 26, nameIndex := 95, descriptorIndex := 91, attributes := #[] }, { accessFlags := 26, nameIndex := 96, descriptorIndex := 97, attributes := #[] }, { accessFlags := 26, nameIndex := 99, descriptorIndex := 91, attributes := #[] }, { accessFlags := 26, nameIndex := 100, descriptorIndex := 91, attributes := #[] }, { accessFlags := 24, nameIndex := 101, descriptorIndex := 97, attributes := #[] }])
  fields := #[{ name := "WORDS", type := (.object "java/lang/invoke/VarHandle"), accessFlags := 26, slot := 0, constantValue := 0 }, { name := "ONES", type := .long, accessFlags := 26, slot := 1, constantValue := 0 }, { name := "HIGH_BITS", type := .long, accessFlags := 26, slot := 2, constantValue := 0 }, { name := "LOW_BITS", type := .long, accessFlags := 26, slot := 3, constantValue := 0 }, { name := "EVEN_BYTES", type := .long, accessFlags := 26, slot := 4, constantValue := 0 }, { name := "WORDS_A_LANE_SUM", type := .int, accessFlags := 26, slot := 5, constantValue := 0 }, { name := "ZEROS", type := .long, accessFlags := 26, slot := 6, constantValue := 0 }, { name := "PAST_NINE", type := .long, accessFlags := 26, slot := 7, constantValue := 0 }, { name := "MAX_SHORT_NUMBER_DIGITS", type := .int, accessFlags := 24, slot := 8, constantValue := 0 }]
  methods := #[k2m0, k2m1]
  instanceTypes := #[]
  staticTypes := #[(.object "java/lang/invoke/VarHandle"), .long, .long, .long, .long, .int, .long, .long, .int]
  resolved := Array.replicate 124 none
  statics := none }

def pool3 : Array CpInfo := pool [(1, u "java/lang/Cloneable"), (0, .class_ 1), (0, u "java/lang/Object"), (0, .class_ 3)] 3

/-- java/lang/Cloneable -/
def k3 : Class := { plain "java/lang/Cloneable" (some 0) with
  accessFlags := 1537
  interfaces := #[]
  cf := some (fileOf pool3 2 #[] #[] 1537 4 #[] #[])
  fields := #[]
  methods := #[]
  instanceTypes := #[]
  staticTypes := #[]
  resolved := Array.replicate 8 none
  statics := none }

def pool4 : Array CpInfo := pool [(1, u "java/io/Serializable"), (0, .class_ 1), (0, u "java/lang/Object"), (0, .class_ 3)] 3

/-- java/io/Serializable -/
def k4 : Class := { plain "java/io/Serializable" (some 0) with
  accessFlags := 1537
  interfaces := #[]
  cf := some (fileOf pool4 2 #[] #[] 1537 4 #[] #[])
  fields := #[]
  methods := #[]
  instanceTypes := #[]
  staticTypes := #[]
  resolved := Array.replicate 8 none
  statics := none }

/-- the primitive byte -/
def k5 : Class := { plain "byte" none with kind := .primitive 'B', accessFlags := 0x411 }
/-- [B -/
def k6 : Class := { plain "[B" (some 0) with kind := .array 5 .byte, interfaces := #[3, 4], accessFlags := 1041 }

/-- the primitive int -/
def k7 : Class := { plain "int" none with kind := .primitive 'I', accessFlags := 0x411 }
/-- [I -/
def k8 : Class := { plain "[I" (some 0) with kind := .array 7 .int, interfaces := #[3, 4], accessFlags := 1041 }

def heap : Heap := #[]
def classes : Array Class := #[k0, k1, k2, k3, k4, k5, k6, k7, k8]
def interned : List (Array UInt16 × Addr) := []
def slotsUsed : Nat := 0
def theMethod : MethodId := ⟨1, 1⟩
def args0 : Array Value := #[.long 0, .long 0, .int 0]
def aboutOver (below : List Frame) : State where
  vm := { classes := classes, interned := interned.toArray }
  heap := heap
  slotsUsed := slotsUsed
  threads := #[{ frames := .invoking theMethod args0 :: below }]
def below0 : List Frame := [.native { method := ⟨0, 0⟩, args := #[] }]
def about1 : State := aboutOver below0
def p0 : Program := .bare "" "" ""
def e0 : Env := launch0.env 0 0 0
theorem w_frames : about1.frames = Frame.invoking theMethod args0 :: below0 := rfl
set_option maxRecDepth 65536 in
theorem w_args : argsFit about1.vm theMethod args0 = true := by decide +kernel
set_option maxRecDepth 65536 in
theorem w_heap : heapFits about1 = true := by decide +kernel
set_option maxRecDepth 65536 in
theorem w_runnable : about1.curStatus? = some .runnable := by decide +kernel
set_option maxRecDepth 65536 in
theorem w_alone : about1.alone = true := by decide +kernel
set_option maxRecDepth 65536 in
theorem w_named : about1.methodNamed? x = some theMethod := by decide +kernel
set_option maxRecDepth 65536 in
theorem w_hears : about1.hears theMethod below0 = true := by decide +kernel
set_option maxRecDepth 65536 in
theorem w_ripe : about1.ripe theMethod args0 below0 = true := by decide +kernel
theorem w_running : about1.status = .running := rfl
set_option maxRecDepth 65536 in
theorem w_room : about1.hasRoom e0.platform room_1 = true :=
  launch0.hasRoom_least _ room_1 (by decide +kernel) (by decide +kernel) (by decide +kernel) (by decide +kernel) (by decide +kernel) (by decide +kernel)
theorem allAtoms_all (ts : List Jvm.Cond) (a : Array Jvm.Value) (st : Jvm.State) : (allAtoms ts).before a st = ts.all (fun c => c.before a st) := by
  induction ts with
  | nil => rfl
  | cons c t ih =>
    show (Jvm.Cond.and c (allAtoms t)).before a st = _
    rw [Jvm.Cond.before_and, ih, List.all_cons]
def words1 : List Jvm.Cond := Jvm.Cond.code x code maxLocals ret :: tables_1
/-- a 'code' word, met by the world's own term for the bytes: nothing is compared byte by byte -/
theorem code_word {y : MethodName} {bytes : ByteArray} {mx : Nat} {rt : Option FieldType} {a : Array Value} {s : State} {m : MethodId} {meth : Method} {c : Code} (h1 : s.methodNamed? y = some m) (h2 : s.vm.method? m = some meth) (h3 : meth.code = some c) (h4 : c.code = bytes)
    (h5 : (c.maxLocals == mx && c.exceptionTable.isEmpty && decide (c.maxStack ≤ mostOperands) && decide (meth.sig.returnType = rt) && !meth.locks && decide (parseMethodDescriptor y.desc = some meth.sig)) = true) : (Jvm.Cond.code y bytes mx rt).before a s = true := by
  simp only [Bool.and_eq_true, beq_iff_eq, Bool.not_eq_true', decide_eq_true_eq] at h5
  obtain ⟨⟨⟨⟨⟨g1, g2⟩, g3⟩, g4⟩, g5⟩, g6⟩ := h5
  simp [Cond.before, Cond.holds, Cond.value, h1, h2, h3, h4, g1, g2, g3, g4, g5, g6]
def isCode : Jvm.Cond → Bool
  | .code _ _ _ _ => true
  | _ => false
theorem all_split {L : List Jvm.Cond} {P : Jvm.Cond → Bool} (h1 : L.all (fun c => isCode c || P c) = true) (h2 : ∀ c ∈ L.filter isCode, P c = true) : L.all P = true := by
  refine List.all_eq_true.mpr fun c hc => ?_
  have h := List.all_eq_true.mp h1 c hc
  rcases Bool.eq_false_or_eq_true (isCode c) with hi | hi
  · exact h2 c (List.mem_filter.mpr ⟨hc, hi⟩)
  · simpa [hi] using h
set_option maxRecDepth 65536 in
theorem w_c0 : (Jvm.Cond.code x code maxLocals ret).before args0 about1 = true := code_word (m := ⟨1, 1⟩) (meth := k1m1) (c := k1c1) (by decide +kernel) rfl rfl rfl (by decide +kernel)
set_option maxRecDepth 65536 in
theorem w_c1 : (Jvm.Cond.code ({ cls := "org/orderloom/fix/ByteWordsNumberPinLaw", name := "digit", desc := "(JI)I" } : Jvm.MethodName) method_3_code (3 : Nat) (Option.some Jvm.ClassFile.FieldType.int)).before args0 about1 = true := code_word (m := ⟨1, 2⟩) (meth := k1m2) (c := k1c2) (by decide +kernel) rfl rfl rfl (by decide +kernel)
set_option maxRecDepth 65536 in
theorem w_c2 : (Jvm.Cond.code ({ cls := "org/orderloom/fix/ByteWordsNumberPinLaw", name := "at", desc := "(II)J" } : Jvm.MethodName) method_4_code (2 : Nat) (Option.some Jvm.ClassFile.FieldType.long)).before args0 about1 = true := code_word (m := ⟨1, 3⟩) (meth := k1m3) (c := k1c3) (by decide +kernel) rfl rfl rfl (by decide +kernel)
set_option maxRecDepth 65536 in
theorem w_c3 : (Jvm.Cond.code ({ cls := "org/orderloom/fix/ByteWords", name := "number", desc := "(JI)J" } : Jvm.MethodName) prog_43_method_10_code (5 : Nat) (Option.some Jvm.ClassFile.FieldType.long)).before args0 about1 = true := code_word (m := ⟨2, 1⟩) (meth := k2m1) (c := k2c1) (by decide +kernel) rfl rfl rfl (by decide +kernel)
def codes1 : List Jvm.Cond := [Jvm.Cond.code x code maxLocals ret, Jvm.Cond.code ({ cls := "org/orderloom/fix/ByteWordsNumberPinLaw", name := "digit", desc := "(JI)I" } : Jvm.MethodName) method_3_code (3 : Nat) (Option.some Jvm.ClassFile.FieldType.int), Jvm.Cond.code ({ cls := "org/orderloom/fix/ByteWordsNumberPinLaw", name := "at", desc := "(II)J" } : Jvm.MethodName) method_4_code (2 : Nat) (Option.some Jvm.ClassFile.FieldType.long), Jvm.Cond.code ({ cls := "org/orderloom/fix/ByteWords", name := "number", desc := "(JI)J" } : Jvm.MethodName) prog_43_method_10_code (5 : Nat) (Option.some Jvm.ClassFile.FieldType.long)]
set_option maxRecDepth 65536 in
theorem codes_eq : words1.filter isCode = codes1 := rfl
theorem w_codes : ∀ c ∈ words1.filter isCode, c.before args0 about1 = true := by
  rw [codes_eq]
  intro c hc
  simp only [codes1, List.mem_cons, List.not_mem_nil, or_false] at hc
  rcases hc with rfl | rfl | rfl | rfl
  · exact w_c0
  · exact w_c1
  · exact w_c2
  · exact w_c3
set_option maxRecDepth 65536 in
theorem w_t1 : words1.all (fun c => isCode c || c.before args0 about1) = true := by decide +kernel
theorem w_tables : (allAtoms (Jvm.Cond.code x code maxLocals ret :: tables_1)).before args0 about1 = true := by
  rw [allAtoms_all]
  show words1.all (fun c => c.before args0 about1) = true
  refine all_split ?_ w_codes
  rw [w_t1]
set_option maxRecDepth 65536 in
theorem w_case : (Jvm.Cond.and given_1 narrow_1).before args0 about1 = true := by decide +kernel
theorem w_applies : (headSpec (Jvm.Cond.code x code maxLocals ret :: tables_1) room_1).applies x e0.platform about1 = true :=
  (Spec.applies_iff w_frames).mpr ⟨w_running, w_runnable, w_alone, w_named, w_hears, w_ripe, w_room, w_tables⟩
theorem atStart : AtStart classFile x code maxLocals ret World_1 tables_1 room_1 Calls_1 rest_1 Pre_1 launch0 p0 e0 about1 theMethod args0 below0 :=
  ⟨lists_1, trivial, launch0.admits_env _ _ _, launch0.least_env, fairChoices_fair.cas, fairChoices_fair.clock, w_frames, w_args, w_heap, w_applies, trivial, trivial, w_case⟩
end start1
theorem witness_1 : WitnessClaimed_1 := ⟨start1.p0, start1.e0, start1.about1, start1.theMethod, start1.args0, start1.below0, start1.atStart⟩
end Jvm.Pilot.@@N@@
