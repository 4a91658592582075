import JvmDerived
import JvmDerived.Pilot.@@N@@Statement
import JvmDerived.Pilot.@@N@@Code
set_option linter.unusedVariables false
set_option linter.unusedSimpArgs false
@@BLOCK:NumsL.lean.txt@@
namespace Jvm.RoadKit
open Sem ClassFile Op Lib Jvm.Stand Jvm.Free Jvm.LawKit
section New
variable {p : Program} {l : Launch} {e : Env} {R : Room} {s : State} {m : MethodId} {args : Array Value} {below : List Frame} {meth : Method} {c : Code} {T : State} {locs : List Loc} {cells slots : Nat}
theorem retI (X : Stand p l e R s m args below meth c T locs cells slots) (hx : p.tables.exec = Jvm.exec) {pc : Nat} {Ls : Array Slot} {z : Int32} {rest : List Value} (hret : meth.sig.returnType = some .int) (hd : decode c.code pc = .ok (.ireturn, 1)) {fs : List Frame}
    (hl : ∀ (f : JFrame) (acts : List Action), f.method = m → f.locked = none → f.entered = [] → (doReturn e (T.setTop f) acts (some (.int z))).1 = T.setFrames fs) : Steps p.tables e below (T.setTop (mkF m pc Ls (.int z :: rest))) (T.setFrames fs) := by
  have hm' : T.vm.method? m = some meth := X.method'
  have hn : narrow .int (.int z) = .int z := rfl
  show Steps p.tables e below (T.setTop { method := m, pc := pc, locals := Ls, stack := _ :: rest, locked := none }) _
  jvm_step X.here [X.here.top, hx, hd, hm', hret, hn]
  first | (intro acts; rw [hl _ acts rfl rfl rfl]) | rw [hl _ _ rfl rfl rfl]
  exact Steps.refl _
end New
end Jvm.RoadKit
namespace Jvm.Pilot.@@N@@
open Jvm Jvm.ClassFile Sem Op Lib Jvm.Free Jvm.Stand Jvm.LawKit Jvm.RoadKit Bundle Jvm.Pilot.@@N@@.Jvm.D
section OwnLayer
variable {p : Program} {l : Launch} {e : Env} {R : Room} {s : State} {m : MethodId} {args : Array Value} {below : List Frame} {meth : Method} {c : Code} {T T' : State} {h h' : Heap} {n0 ck sk ck' sk' : Nat} {Z : State} {a0 : Array Value} {Post : Outcome → State → Prop} {g g' : JFrame}
/-- from this state and frame the run comes to an end of the invocation of which Post holds -/
def Go (p : Program) (e : Env) (below : List Frame) (Post : Outcome → State → Prop) (T : State) (g : JFrame) : Prop :=
  ∃ s₂ o, Steps p.tables e below (T.setTop g) s₂ ∧ s₂.status = .running ∧ Ended s₂ below o ∧ Post o s₂
theorem Go.st (hs : ∀ t, Steps p.tables e below (T'.setTop g') t → Steps p.tables e below (T.setTop g) t) (k : Go p e below Post T' g') : Go p e below Post T g := by
  obtain ⟨s2, o, h1, h2⟩ := k
  exact ⟨s2, o, hs _ h1, h2⟩
/-- where the walk stands: the heap is h; what was written lies at or above n0; at most ck cells and sk slots were made -/
def Stn (p : Program) (l : Launch) (e : Env) (R : Room) (s : State) (m : MethodId) (args : Array Value) (below : List Frame) (meth : Method) (c : Code) (n0 : Nat) (T : State) (h : Heap) (ck sk : Nat) : Prop :=
  T.heap = h ∧ ∃ locs, Fr n0 locs ∧ Stand p l e R s m args below meth c T locs ck sk
theorem Stn.here (X : Stn p l e R s m args below meth c n0 T h ck sk) : At T m c below := by
  obtain ⟨_, _, _, Y⟩ := X
  exact Y.here
theorem Stn.mono (X : Stn p l e R s m args below meth c n0 T h ck sk) (h1 : ck ≤ ck') (h2 : sk ≤ sk') : Stn p l e R s m args below meth c n0 T h ck' sk' := by
  obtain ⟨e1, L, N, Y⟩ := X
  exact ⟨e1, L, N, Y.more h1 h2⟩
/-- what a body's end says -/
def PostW (s : State) (n0 C S : Nat) (Q : Option Value → Heap → Prop) (o : Outcome) (U : State) : Prop :=
  ∃ v L, o = .returned v ∧ (Fr n0 L ∧ Q v U.heap) ∧ FrameEnd s o U L C S
/-- a body's contract -/
def Con (l : Launch) (y : MethodName) (bytes : ByteArray) (maxL : Nat) (ret : Option FieldType) (rm : Room) (ws : List Jvm.Cond) (Z : State) (n0 : Nat) (as' : Array Value) (h : Heap) (Q : Option Value → Heap → Prop) : Prop :=
  MetFree l y (head1 (Jvm.Cond.code y bytes maxL ret :: ws) rm) (fun a U => a = as' ∧ Z.Warmed39 U.vm ∧ U.heap = h) (fun _ _ _ _ _ => True) (fun _ U o U' => ∃ v L, o = .returned v ∧ (Fr n0 L ∧ Q v U'.heap) ∧ FrameEnd U o U' L rm.cells rm.slots)
theorem Con.body {y : MethodName} {bytes : ByteArray} {maxL : Nat} {ret : Option FieldType} {rm : Room} {ws : List Jvm.Cond} {as' : Array Value} {Q : Option Value → Heap → Prop} (hp : plainFor y = true)
    (k : ∀ (p : Program) (e : Env) (s : State) (m : MethodId) (below : List Frame) (meth : Method) (c : Code) (s₁ : State), p.tables.exec = Jvm.exec → c.code = bytes → c.maxLocals = maxL → s.vm.findClass y.cls = some m.cls → meth.name = y.name → meth.sig.returnType = ret → meth.locks = false → Z.Warmed39 s.vm →
      Stn p l e rm s m as' below meth c n0 s₁ h 0 0 → Go p e below (PostW s n0 rm.cells rm.slots Q) s₁ (entryFrame m as' maxL)) : Con l y bytes maxL ret rm ws Z n0 as' h Q := by
  refine MetFree.of_bodySF hp hisR ?_
  intro p e s m args below meth c s₁ Bd hml0 hP hK
  obtain ⟨rfl, hZ, hh⟩ := hP
  have e0 : s₁.heap = h := by rw [← hh, Bd.state]; rfl
  exact k p e s m below meth c s₁ Bd.exec Bd.bytes hml0 (findClass_of_methodNamed Bd.named) (name_of_methodNamed Bd.named Bd.method).1 Bd.returns Bd.notSynchronized hZ ⟨e0, [], Fr.nil n0, Stand.of_body Bd⟩
theorem Con.mono {y : MethodName} {bytes : ByteArray} {maxL : Nat} {ret : Option FieldType} {rm : Room} {ws : List Jvm.Cond} {as' : Array Value} {Q Q' : Option Value → Heap → Prop} (hM : Con l y bytes maxL ret rm ws Z n0 as' h Q) (hq : ∀ v h', Q v h' → Q' v h') : Con l y bytes maxL ret rm ws Z n0 as' h Q' := by
  intro p e ha hc hk s m args below hf happ hP hK
  obtain ⟨n, o, h1, h2, h3, v, L, h4, ⟨h5, h6⟩, h7⟩ := hM p e ha hc hk s m args below hf happ hP hK
  exact ⟨n, o, h1, h2, h3, v, L, h4, ⟨h5, hq _ _ h6⟩, h7⟩
/-! a long's comparison -/
theorem lcTlt {a b : Int64} (h : a < b) : ifCond.holds .lt (lcmpW a b) = true ∧ ifCond.holds .ge (lcmpW a b) = false := by
  have q : lcmpW a b < 0 := by rw [lcW]; exact (lc_lt a b).mpr h
  exact ⟨(if0 _ _).trans (tlt q).1, (if0 _ _).trans (tlt q).2.1⟩
theorem lcFlt {a b : Int64} (h : ¬ a < b) : ifCond.holds .lt (lcmpW a b) = false ∧ ifCond.holds .ge (lcmpW a b) = true := by
  have q : ¬ lcmpW a b < 0 := fun z => h ((lc_lt a b).mp (by rw [← lcW]; exact z))
  exact ⟨(if0 _ _).trans (flt q).1, (if0 _ _).trans (flt q).2.1⟩
theorem lcTgt {a b : Int64} (h : b < a) : ifCond.holds .gt (lcmpW a b) = true ∧ ifCond.holds .le (lcmpW a b) = false := by
  have q : 0 < lcmpW a b := by rw [lcW]; exact (lc_gt a b).mpr h
  exact ⟨(if0 _ _).trans (tlt q).2.2.1, (if0 _ _).trans (tlt q).2.2.2⟩
theorem lcFgt {a b : Int64} (h : ¬ b < a) : ifCond.holds .gt (lcmpW a b) = false ∧ ifCond.holds .le (lcmpW a b) = true := by
  have q : ¬ 0 < lcmpW a b := fun z => h ((lc_gt a b).mp (by rw [← lcW]; exact z))
  exact ⟨(if0 _ _).trans (flt q).2.2.1, (if0 _ _).trans (flt q).2.2.2⟩
theorem lcTeq {a b : Int64} (h : a = b) : ifCond.holds .eq (lcmpW a b) = true ∧ ifCond.holds .ne (lcmpW a b) = false := by
  have q : lcmpW a b = 0 := by rw [lcW]; exact (lc_eq a b).mpr h
  exact ⟨(if0 _ _).trans (teq q).1, (if0 _ _).trans (teq q).2⟩
theorem lcFeq {a b : Int64} (h : ¬ a = b) : ifCond.holds .eq (lcmpW a b) = false ∧ ifCond.holds .ne (lcmpW a b) = true := by
  have q : ¬ lcmpW a b = 0 := fun z => h ((lc_eq a b).mp (by rw [← lcW]; exact z))
  exact ⟨(if0 _ _).trans (feq q).1, (if0 _ _).trans (feq q).2⟩
theorem acT {a b : Addr} (h : a = b) : if_acmp.holds .eq (some a) (some b) = true ∧ if_acmp.holds .ne (some a) (some b) = false := by subst h; simp [if_acmp.holds]
theorem acF {a b : Addr} (h : ¬ a = b) : if_acmp.holds .eq (some a) (some b) = false ∧ if_acmp.holds .ne (some a) (some b) = true := by simp [if_acmp.holds, h]
/-! returns -/
theorem goRet {v : Option Value} {Q : Option Value → Heap → Prop} {C S : Nat} (X : Stn p l e R s m args below meth c n0 T h ck sk) (hlk : meth.locks = false) (hv : meth.sig.returnType = none → v = none)
    (hst : ∀ locs fs, Stand p l e R s m args below meth c T locs ck sk → (∀ (f : JFrame) (acts : List Action), f.method = m → f.locked = none → f.entered = [] → (doReturn e (T.setTop f) acts v).1 = T.setFrames fs) → Steps p.tables e below (T.setTop g) (T.setFrames fs))
    (hq : Q v h) (h1 : ck ≤ C) (h2 : sk ≤ S) : Go p e below (PostW s n0 C S Q) T g := by
  obtain ⟨eT, locs, N, Y⟩ := X
  obtain ⟨fs, hr, hrun, hended, hW, hsame⟩ := Y.leave hv hlk
  exact ⟨_, _, hst locs fs Y hr, hrun, hended, _, _, rfl, ⟨N, (by show Q v T.heap; rw [eT]; exact hq)⟩, ⟨_, rfl⟩, hW, hsame.mono h1 h2⟩
theorem goRetI {pc : Nat} {Ls : Array Slot} {z : Int32} {rest : List Value} {Q : Option Value → Heap → Prop} {C S : Nat} (X : Stn p l e R s m args below meth c n0 T h ck sk) (hx : p.tables.exec = Jvm.exec) (hlk : meth.locks = false) (hret : meth.sig.returnType = some .int)
    (hd : decode c.code pc = .ok (.ireturn, 1)) (h1 : ck ≤ C) (h2 : sk ≤ S) (hq : Q (some (.int z)) h) : Go p e below (PostW s n0 C S Q) T (mkF m pc Ls (.int z :: rest)) :=
  goRet X hlk (fun h => by rw [hret] at h; cases h) (fun _ _ Y hr => retI Y hx hret hd hr) hq h1 h2
theorem goRetZ {pc : Nat} {Ls : Array Slot} {z : Int32} {rest : List Value} {Q : Option Value → Heap → Prop} {C S : Nat} (X : Stn p l e R s m args below meth c n0 T h ck sk) (hx : p.tables.exec = Jvm.exec) (hlk : meth.locks = false) (hret : meth.sig.returnType = some .boolean)
    (hd : decode c.code pc = .ok (.ireturn, 1)) (h1 : ck ≤ C) (h2 : sk ≤ S) (hz : z = 0 ∨ z = 1) (hq : Q (some (.int z)) h) : Go p e below (PostW s n0 C S Q) T (mkF m pc Ls (.int z :: rest)) := by
  rcases hz with rfl | rfl
  · exact goRet X hlk (fun h => by rw [hret] at h; cases h) (fun _ _ Y hr => retN Y hx (t := .boolean) hret (by simp) hd hr) hq h1 h2
  · exact goRet X hlk (fun h => by rw [hret] at h; cases h) (fun _ _ Y hr => retN Y hx (t := .boolean) hret (by simp) hd hr) hq h1 h2
theorem goRetV {pc : Nat} {Ls : Array Slot} {Q : Option Value → Heap → Prop} {C S : Nat} (X : Stn p l e R s m args below meth c n0 T h ck sk) (hx : p.tables.exec = Jvm.exec) (hlk : meth.locks = false) (hret : meth.sig.returnType = none)
    (hd : decode c.code pc = .ok (.return_, 1)) (h1 : ck ≤ C) (h2 : sk ≤ S) (hq : Q none h) : Go p e below (PostW s n0 C S Q) T (mkF m pc Ls []) :=
  goRet X hlk (fun _ => rfl) (fun _ _ Y hr => Y.returnOut hx hret hd hr) hq h1 h2
theorem goRetL {pc : Nat} {Ls : Array Slot} {z : Int64} {rest : List Value} {Q : Option Value → Heap → Prop} {C S : Nat} (X : Stn p l e R s m args below meth c n0 T h ck sk) (hx : p.tables.exec = Jvm.exec) (hlk : meth.locks = false) (hret : meth.sig.returnType = some .long)
    (hd : decode c.code pc = .ok (.lreturn, 1)) (h1 : ck ≤ C) (h2 : sk ≤ S) (hq : Q (some (.long z)) h) : Go p e below (PostW s n0 C S Q) T (mkF m pc Ls (.long z :: rest)) :=
  goRet X hlk (fun h => by rw [hret] at h; cases h) (fun _ _ Y hr => by
    jvm_step Y.here [Y.here.top, hx, hd, Y.method', hret, narrow]
    first | (intro acts; rw [hr _ acts rfl rfl rfl]) | rw [hr _ _ rfl rfl rfl]
    exact Steps.refl _) hq h1 h2
theorem goRetA {pc : Nat} {Ls : Array Slot} {z : Addr} {rest : List Value} {t : FieldType} {Q : Option Value → Heap → Prop} {C S : Nat} (X : Stn p l e R s m args below meth c n0 T h ck sk) (hx : p.tables.exec = Jvm.exec) (hlk : meth.locks = false) (hret : meth.sig.returnType = some t) (ht : t.isReference = true)
    (hd : decode c.code pc = .ok (.areturn, 1)) (h1 : ck ≤ C) (h2 : sk ≤ S) (hq : Q (some (.ref z)) h) : Go p e below (PostW s n0 C S Q) T (mkF m pc Ls (.ref z :: rest)) :=
  goRet X hlk (fun h => by rw [hret] at h; cases h) (fun _ _ Y hr => by
    jvm_step Y.here [Y.here.top, hx, hd, Y.method', hret, Value.isRef, ht]
    first | (intro acts; rw [hr _ acts rfl rfl rfl]) | rw [hr _ _ rfl rfl rfl]
    exact Steps.refl _) hq h1 h2
/-! fields, objects -/
theorem goGet (X : Stn p l e R s m args below meth c n0 T h ck sk) (hx : p.tables.exec = Jvm.exec) (hZ : Z.Warmed39 s.vm) {own R0 O n d host : String} {index : Nat} (hown : s.vm.findClass own = some m.cls) (w : (Cond.fieldLink own index R0 n d).before a0 Z = true ∨ (Cond.fieldLinkNest own index R0 n d host).before a0 Z = true) (via : Via Z R0 O n d)
    {a : Addr} {v : Value} (F : Fld Z h a O n d v) {pc : Nat} {ls : Array Slot} {rest : List Value} (hd : decode c.code pc = .ok (.getfield index, 3))
    (k : ∀ T', Stn p l e R s m args below meth c n0 T' h ck sk → Go p e below Post T' (mkF m (pc + 3) ls (v :: rest))) : Go p e below Post T (mkF m pc ls (.ref a :: rest)) := by
  obtain ⟨eT, locs, N, Y⟩ := X
  obtain ⟨T', X', e', st⟩ := getF Y hx hZ hown w via eT F (g := mkF m pc ls (.ref a :: rest)) rfl rfl hd
  exact Go.st st (k T' ⟨e', locs, N, X'⟩)
theorem goPut (X : Stn p l e R s m args below meth c n0 T h ck sk) (hx : p.tables.exec = Jvm.exec) (hZ : Z.Warmed39 s.vm) {own R0 O n d host C : String} {index kk : Nat} {ty : FieldType} (hown : s.vm.findClass own = some m.cls) (w : (Cond.fieldLink own index R0 n d).before a0 Z = true ∨ (Cond.fieldLinkNest own index R0 n d host).before a0 Z = true) (via : Via Z R0 O n d)
    {a : Addr} {v old : Value} (F : Fld Z h a O n d old) (E : Exa Z h a C) (L : (Cond.lays C O n d).before a0 Z = true ∨ ((Cond.laysFinal C O n d).before a0 Z = true ∧ own = O ∧ meth.name = "<init>")) (wi : (Cond.instantiable C kk).before a0 Z = true)
    (hty : parseFieldDescriptor d = some ty) (hn : narrow ty v = v) (hf : fits ty v = true) (ha : n0 ≤ a) {pc : Nat} {ls : Array Slot} {rest : List Value} (hd : decode c.code pc = .ok (.putfield index, 3))
    (k : ∀ T' h', Stn p l e R s m args below meth c n0 T' h' ck sk → Wr h h' a (Jvm.RoadKit.slotOf Z O n d) v → Go p e below Post T' (mkF m (pc + 3) ls rest)) : Go p e below Post T (mkF m pc ls (v :: .ref a :: rest)) := by
  obtain ⟨eT, locs, N, Y⟩ := X
  obtain ⟨T', h', X', e', W, st⟩ := putF Y hx hZ hown w via eT F E L wi hty hn hf (g := mkF m pc ls (v :: .ref a :: rest)) rfl rfl hd
  exact Go.st st (k T' h' ⟨e', _, Fr.snoc X' N ha, X'⟩ W)
theorem goPutN (X : Stn p l e R s m args below meth c n0 T h ck sk) (hx : p.tables.exec = Jvm.exec) (hZ : Z.Warmed39 s.vm) {own R0 O n d C : String} {index kk : Nat} {ty : FieldType} (hown : s.vm.findClass own = some m.cls) (w : (Cond.fieldLink own index R0 n d).before a0 Z = true) (via : Via Z R0 O n d)
    {a : Addr} {v v' old : Value} (F : Fld Z h a O n d old) (E : Exa Z h a C) (L : (Cond.lays C O n d).before a0 Z = true ∨ ((Cond.laysFinal C O n d).before a0 Z = true ∧ own = O ∧ meth.name = "<init>")) (wi : (Cond.instantiable C kk).before a0 Z = true)
    (hty : parseFieldDescriptor d = some ty) (hn : narrow ty v = v') (hf : fits ty v' = true) (ha : n0 ≤ a) {pc : Nat} {ls : Array Slot} {rest : List Value} (hd : decode c.code pc = .ok (.putfield index, 3))
    (k : ∀ T' h', Stn p l e R s m args below meth c n0 T' h' ck sk → Wr h h' a (Jvm.RoadKit.slotOf Z O n d) v' → Go p e below Post T' (mkF m (pc + 3) ls rest)) : Go p e below Post T (mkF m pc ls (v :: .ref a :: rest)) := by
  obtain ⟨eT, locs, N, Y⟩ := X
  obtain ⟨T', h', X', e', W, st⟩ := putFN Y hx hZ hown w via eT F E L wi hty hn hf (g := mkF m pc ls (v :: .ref a :: rest)) rfl rfl hd
  exact Go.st st (k T' h' ⟨e', _, Fr.snoc X' N ha, X'⟩ W)
theorem goNew (X : Stn p l e R s m args below meth c n0 T h ck sk) (hx : p.tables.exec = Jvm.exec) (hZ : Z.Warmed39 s.vm) {own C : String} {index n : Nat} (hown : s.vm.findClass own = some m.cls) (w : (Cond.classLink own index C).before a0 Z = true) (wi : (Cond.instantiable C n).before a0 Z = true) (wz : (Cond.initialized C).before a0 Z = true)
    {pc : Nat} {ls : Array Slot} {st : List Value} (hd : decode c.code pc = .ok (.new index, 3)) (hc : ck + 1 ≤ R.cells) (hl : sk + n ≤ R.slots)
    (k : ∀ T' h' a, a = h.size → Stn p l e R s m args below meth c n0 T' h' (ck + 1) (sk + n) → Ext h h' → Exa Z h' a C → (∀ {O nm d : String} {ty : FieldType}, Laid Z a0 C O nm d → parseFieldDescriptor d = some ty → Fld Z h' a O nm d (defaultValue ty)) → Go p e below Post T' (mkF m (pc + 3) ls (.ref a :: st))) : Go p e below Post T (mkF m pc ls st) := by
  obtain ⟨eT, locs, N, Y⟩ := X
  obtain ⟨T', h', X', e', E, A, D, -, stp⟩ := newO Y hx hZ hown w wi wz eT (g := mkF m pc ls st) rfl hd hc hl
  exact Go.st stp (k T' h' _ rfl ⟨e', locs, N, X'⟩ E A D)
theorem goInit (X : Stn p l e R s m args below meth c n0 T h ck sk) (hx : p.tables.exec = Jvm.exec) (hZ : Z.Warmed39 s.vm) {own : String} {idx : Nat} (hown : s.vm.findClass own = some m.cls) (w1 : (Cond.methodLink own idx Lib.objectInit).before a0 Z = true) (w2 : (Cond.instanceMethod Lib.objectInit).before a0 Z = true)
    (w3 : (Cond.code Lib.objectInit object_method_1_code 1 none).before a0 Z = true) {pc : Nat} {ls : Array Slot} {a : Addr} {rest : List Value} (hsize : ls.size = c.maxLocals) (hd : decode c.code pc = .ok (.invokespecial idx, 3))
    (hf : 1 ≤ R.frames) {W : Nat} (hW : (rest.map fun v => v.category).sum ≤ W) (hl : W + 12 ≤ R.locals)
    (k : ∀ T', Stn p l e R s m args below meth c n0 T' h ck sk → Go p e below Post T' (mkF m (pc + 3) ls rest)) : Go p e below Post T (mkF m pc ls (.ref a :: rest)) := by
  obtain ⟨eT, locs, N, Y⟩ := X
  obtain ⟨T', X', e', st⟩ := initO Y hx hZ hown w1 w2 w3 eT (g := mkF m pc ls (.ref a :: rest)) rfl hsize rfl hd hf (W := W) (by show 2 * 0 + _ ≤ _; omega) hl
  exact Go.st st (k T' ⟨e', locs, N, X'⟩)
theorem Stn.ldcI (X : Stn p l e R s m args below meth c n0 T h ck sk) (hx : p.tables.exec = Jvm.exec) (hZ : Z.Warmed39 s.vm) {own : String} {index : Nat} {v : Int32} (hown : s.vm.findClass own = some m.cls) (w : (Cond.constant own index v).before a0 Z = true)
    {pc : Nat} {ls : Array Slot} {st : List Value} (hd : decode c.code pc = .ok (.ldc index, 2)) {t : State} (k : Steps p.tables e below (T.setTop (mkF m (pc + 2) ls (.int v :: st))) t) : Steps p.tables e below (T.setTop (mkF m pc ls st)) t := by
  obtain ⟨eT, locs, N, Y⟩ := X
  exact Y.ldcInt hx hown (mvT hZ w) (g := mkF m pc ls st) rfl hd t k
theorem Stn.ldcJ (X : Stn p l e R s m args below meth c n0 T h ck sk) (hx : p.tables.exec = Jvm.exec) (hZ : Z.Warmed39 s.vm) {own : String} {index : Nat} {v : Int64} (hown : s.vm.findClass own = some m.cls) (w : (Cond.constantLong own index v).before a0 Z = true)
    {pc : Nat} {ls : Array Slot} {st : List Value} (hd : decode c.code pc = .ok (.ldc2_w index, 3)) {t : State} (k : Steps p.tables e below (T.setTop (mkF m (pc + 3) ls (.long v :: st))) t) : Steps p.tables e below (T.setTop (mkF m pc ls st)) t := by
  obtain ⟨eT, locs, N, Y⟩ := X
  exact Y.ldc2Long hx hown (mvT hZ w) (g := mkF m pc ls st) rfl hd t k
/-! arrays: of kind ty, length n, whose places hold f -/
def Ary (Z : State) (h : Heap) (a : Addr) (ty : FieldType) (n : Nat) (f : Nat → Value) : Prop := ∃ cl : Cell, Arr Z h a cl ty ∧ cl.slots.size = n ∧ ∀ i, i < n → cl.slots[i]? = some (f i)
theorem Ary.lt {a : Addr} {ty : FieldType} {n : Nat} {f : Nat → Value} (A : Ary Z h a ty n f) : a < h.size := by obtain ⟨cl, A, -⟩ := A; exact A.lt
theorem Ary.ext {a : Addr} {ty : FieldType} {n : Nat} {f : Nat → Value} (E : Ext h h') (A : Ary Z h a ty n f) : Ary Z h' a ty n f := by obtain ⟨cl, A, r⟩ := A; exact ⟨cl, A.ext E, r⟩
theorem Ary.other {a b : Addr} {ty : FieldType} {n sl : Nat} {f : Nat → Value} {v : Value} (W : Wr h h' b sl v) (A : Ary Z h a ty n f) (q : a ≠ b) : Ary Z h' a ty n f := by obtain ⟨cl, A, r⟩ := A; exact ⟨cl, A.other W q, r⟩
theorem Ary.keep {a : Addr} {ty : FieldType} {n : Nat} {f : Nat → Value} {ws : List Addr} (A : Ary Z h a ty n f) (K : Keep h h' ws) (q : a ∉ ws) : Ary Z h' a ty n f := by obtain ⟨cl, A, r⟩ := A; exact ⟨cl, ⟨K.2.1 a cl A.1 q, A.2⟩, r⟩
theorem Ary.congr {a : Addr} {ty : FieldType} {n : Nat} {f f' : Nat → Value} (A : Ary Z h a ty n f) (q : ∀ i, i < n → f i = f' i) : Ary Z h a ty n f' := by obtain ⟨cl, A, r1, r2⟩ := A; exact ⟨cl, A, r1, fun i hi => by rw [← q i hi]; exact r2 i hi⟩
theorem Ary.set {a : Addr} {ty : FieldType} {n j : Nat} {f : Nat → Value} {v : Value} (A : Ary Z h a ty n f) (W : Wr h h' a j v) : Ary Z h' a ty n (fun i => if i = j then v else f i) := by
  obtain ⟨cl, A, r1, r2⟩ := A
  have A' := A.same W
  obtain ⟨c1, q1, -, q2, -⟩ := W
  cases q1.symm.trans A.1
  refine ⟨_, A', by rw [sz_set]; exact r1, fun i hi => ?_⟩
  by_cases hij : i = j
  · subst hij
    simp [Cell.setSlot, q2]
  · have : j ≠ i := fun z => hij z.symm
    simp [Cell.setSlot, hij, Array.getElem?_setIfInBounds_ne this, r2 i hi]
theorem Ary.new {k : ClassId} {a : Addr} {ty : FieldType} {z : Int32} (A : Arr Z h a (newA k ty z) ty) : Ary Z h a ty z.toNatClampNeg (fun _ => defaultValue ty) :=
  ⟨_, A, sz_new _ _ _, fun i hi => by simp [newA, hi]⟩
theorem ne_ary {a b : Addr} {C : String} {kk n : Nat} {ty : FieldType} {f : Nat → Value} (F : Exa Z h a C) (wi : (Cond.instantiable C kk).before a0 Z = true) (G : Ary Z h b ty n f) : a ≠ b := by
  obtain ⟨cl, A, -⟩ := G
  exact ne_arr F wi A
theorem goNewA (X : Stn p l e R s m args below meth c n0 T h ck sk) (hx : p.tables.exec = Jvm.exec) (hZ : Z.Warmed39 s.vm) {aty : ArrayType} (w : (Cond.arrayClass (newarray.typeOf aty)).before a0 Z = true)
    {pc : Nat} {ls : Array Slot} {n : Int32} {rest : List Value} (hd : decode c.code pc = .ok (.newarray aty, 2)) (hn : ¬ n < 0) {cap : Nat} (hcap : n.toNatClampNeg ≤ cap) (hb : cap * 8 ≤ 536870912) (hc : ck + 1 ≤ R.cells) (hl : sk + cap ≤ R.slots) {ad : String} (had : "[" ++ (newarray.typeOf aty).toString = ad)
    (k : ∀ T' h' a, a = h.size → Stn p l e R s m args below meth c n0 T' h' (ck + 1) (sk + cap) → Ext h h' → Exa Z h' a ad → Ary Z h' a (newarray.typeOf aty) n.toNatClampNeg (fun _ => defaultValue (newarray.typeOf aty)) → Go p e below Post T' (mkF m (pc + 2) ls (.ref a :: rest))) : Go p e below Post T (mkF m pc ls (.int n :: rest)) := by
  obtain ⟨eT, locs, N, Y⟩ := X
  obtain ⟨T', h', cA, X', e', E, A, Ex, st⟩ := newPE Y hx hZ w eT (g := mkF m pc ls (.int n :: rest)) rfl hd rfl hn hcap hb hc hl had
  exact Go.st st (k T' h' _ rfl ⟨e', locs, N, X'⟩ E Ex (Ary.new A))
theorem goClone (X : Stn p l e R s m args below meth c n0 T h ck sk) (hx : p.tables.exec = Jvm.exec) (hZ : Z.Warmed39 s.vm) {own ad : String} {index : Nat} (hown : s.vm.findClass own = some m.cls)
    (w1 : (Cond.methodLink own index ⟨ad, "clone", "()Ljava/lang/Object;"⟩).before a0 Z = true) (w2 : (Cond.sameMethod ad "java/lang/Object" "clone" "()Ljava/lang/Object;").before a0 Z = true) (w3 : (Cond.native ⟨"java/lang/Object", "clone", "()Ljava/lang/Object;"⟩).before a0 Z = true)
    (w4 : (Cond.instanceMethod ⟨"java/lang/Object", "clone", "()Ljava/lang/Object;"⟩).before a0 Z = true) (w5 : (Cond.selects ad ⟨ad, "clone", "()Ljava/lang/Object;"⟩ ⟨"java/lang/Object", "clone", "()Ljava/lang/Object;"⟩).before a0 Z = true) (w6 : (Cond.castable ad "java/lang/Cloneable").before a0 Z = true)
    {a : Addr} {ty : FieldType} {n : Nat} {f : Nat → Value} (A : Ary Z h a ty n f) (E : Exa Z h a ad) (hfit : ∀ i, i < n → fits ty (f i) = true) {pc : Nat} {ls : Array Slot} {rest : List Value} (hsize : ls.size = c.maxLocals) (hd : decode c.code pc = .ok (.invokevirtual index, 3))
    (hf : 1 ≤ R.frames) {W cap : Nat} (hW : (rest.map fun v => v.category).sum = W) (hl : W + 14 ≤ R.locals) (hcap : n ≤ cap) (hc : ck + 1 ≤ R.cells) (hsl : sk + cap ≤ R.slots)
    (k : ∀ T' h' b, b = h.size → Stn p l e R s m args below meth c n0 T' h' (ck + 1) (sk + cap) → Ext h h' → Exa Z h' b ad → Ary Z h' b ty n f → Go p e below Post T' (mkF m (pc + 3) ls (.ref b :: rest))) : Go p e below Post T (mkF m pc ls (.ref a :: rest)) := by
  obtain ⟨eT, locs, N, Y⟩ := X
  obtain ⟨cl, A, r1, r2⟩ := A
  have FC : FitC Z cl := fitC_of A fun i hi v hv => by
    rw [r2 i (r1 ▸ hi)] at hv
    cases hv
    exact hfit i (r1 ▸ hi)
  obtain ⟨T', h', X', e', Ex, A', E', st⟩ := cloneA Y hx hZ hown w1 w2 w3 w4 w5 w6 eT A E FC (g := mkF m pc ls (.ref a :: rest)) rfl hsize rfl hd hf (W := W) (cap := cap) (by show 2 * 0 + _ ≤ _; omega) hl (by rw [r1]; exact hcap) hc hsl
  exact Go.st st (k T' h' _ rfl ⟨e', locs, N, X'⟩ Ex E' ⟨_, A', r1, r2⟩)
theorem goCast (X : Stn p l e R s m args below meth c n0 T h ck sk) (hx : p.tables.exec = Jvm.exec) (hZ : Z.Warmed39 s.vm) {own K : String} {index : Nat} (hown : s.vm.findClass own = some m.cls) (w : (Cond.classLink own index K).before a0 Z = true) {a : Addr} (F : Ins Z h a K true)
    {pc : Nat} {ls : Array Slot} {rest : List Value} (hd : decode c.code pc = .ok (.checkcast index, 3)) (k : ∀ T', Stn p l e R s m args below meth c n0 T' h ck sk → Go p e below Post T' (mkF m (pc + 3) ls (.ref a :: rest))) : Go p e below Post T (mkF m pc ls (.ref a :: rest)) := by
  obtain ⟨eT, locs, N, Y⟩ := X
  obtain ⟨T', X', e', st⟩ := castY Y hx hZ hown w eT F (g := mkF m pc ls (.ref a :: rest)) rfl rfl hd
  exact Go.st st (k T' ⟨e', locs, N, X'⟩)
theorem goLen (X : Stn p l e R s m args below meth c n0 T h ck sk) (hx : p.tables.exec = Jvm.exec) (hZ : Z.Warmed39 s.vm) {a : Addr} {ty : FieldType} {n : Nat} {f : Nat → Value} (A : Ary Z h a ty n f) {pc : Nat} {ls : Array Slot} {rest : List Value} (hd : decode c.code pc = .ok (.arraylength, 1))
    (k : Go p e below Post T (mkF m (pc + 1) ls (.int n.toInt32 :: rest))) : Go p e below Post T (mkF m pc ls (.ref a :: rest)) := by
  obtain ⟨eT, locs, N, Y⟩ := X
  obtain ⟨cl, A, r1, -⟩ := A
  subst r1
  exact Go.st (fun t q => Y.arraylength hx (by rw [eT]; exact A.1) (State.isArrayOf_alike hZ.alike A.2.1) (g := mkF m pc ls (.ref a :: rest)) rfl rfl hd t q) k
theorem goLdI (X : Stn p l e R s m args below meth c n0 T h ck sk) (hx : p.tables.exec = Jvm.exec) (hZ : Z.Warmed39 s.vm) {a : Addr} {n : Nat} {f : Nat → Int32} (A : Ary Z h a .int n (fun i => .int (f i))) {j : Int32} (hj : ¬ (j < 0 ∨ n ≤ j.toNatClampNeg)) {pc : Nat} {ls : Array Slot} {rest : List Value} (hd : decode c.code pc = .ok (.iaload, 1))
    (k : Go p e below Post T (mkF m (pc + 1) ls (.int (f j.toNatClampNeg) :: rest))) : Go p e below Post T (mkF m pc ls (.int j :: .ref a :: rest)) := by
  obtain ⟨eT, locs, N, Y⟩ := X
  obtain ⟨cl, A, r1, r2⟩ := A
  subst r1
  exact Go.st (fun t q => Y.iaload hx (j := j) (v := .int (f j.toNatClampNeg)) (by rw [eT]; exact A.1) (State.isArrayOf_alike hZ.alike A.2.1) A.2.2 hj (r2 _ (by omega)) (g := mkF m pc ls (.int j :: .ref a :: rest)) rfl rfl hd t q) k
theorem goLdJ (X : Stn p l e R s m args below meth c n0 T h ck sk) (hx : p.tables.exec = Jvm.exec) (hZ : Z.Warmed39 s.vm) {a : Addr} {n : Nat} {f : Nat → Int64} (A : Ary Z h a .long n (fun i => .long (f i))) {j : Int32} (hj : ¬ (j < 0 ∨ n ≤ j.toNatClampNeg)) {pc : Nat} {ls : Array Slot} {rest : List Value} (hd : decode c.code pc = .ok (.laload, 1))
    (k : Go p e below Post T (mkF m (pc + 1) ls (.long (f j.toNatClampNeg) :: rest))) : Go p e below Post T (mkF m pc ls (.int j :: .ref a :: rest)) := by
  obtain ⟨eT, locs, N, Y⟩ := X
  obtain ⟨cl, A, r1, r2⟩ := A
  subst r1
  exact Go.st (fun t q => Y.laload hx (j := j) (v := .long (f j.toNatClampNeg)) (by rw [eT]; exact A.1) (State.isArrayOf_alike hZ.alike A.2.1) A.2.2 hj (r2 _ (by omega)) (g := mkF m pc ls (.int j :: .ref a :: rest)) rfl rfl hd t q) k
theorem goStI (X : Stn p l e R s m args below meth c n0 T h ck sk) (hx : p.tables.exec = Jvm.exec) (hZ : Z.Warmed39 s.vm) {a : Addr} {n : Nat} {f : Nat → Int32} (A : Ary Z h a .int n (fun i => .int (f i))) {j x : Int32} (hj : ¬ (j < 0 ∨ n ≤ j.toNatClampNeg)) (ha : n0 ≤ a) {pc : Nat} {ls : Array Slot} {rest : List Value} (hd : decode c.code pc = .ok (.iastore, 1))
    (k : ∀ T' h', Stn p l e R s m args below meth c n0 T' h' ck sk → Wr h h' a j.toNatClampNeg (.int x) → Ary Z h' a .int n (fun i => .int (if i = j.toNatClampNeg then x else f i)) → Go p e below Post T' (mkF m (pc + 1) ls rest)) : Go p e below Post T (mkF m pc ls (.int x :: .int j :: .ref a :: rest)) := by
  obtain ⟨eT, locs, N, Y⟩ := X
  have A0 := A
  obtain ⟨cl, A, r1, r2⟩ := A
  subst r1
  obtain ⟨T', h', X', e', W, st⟩ := stI Y hx hZ eT A hj (g := mkF m pc ls (.int x :: .int j :: .ref a :: rest)) rfl rfl hd
  exact Go.st st (k T' h' ⟨e', _, Fr.snoc X' N ha, X'⟩ W ((A0.set W).congr fun i _ => by split <;> rfl))
theorem goStJ (X : Stn p l e R s m args below meth c n0 T h ck sk) (hx : p.tables.exec = Jvm.exec) (hZ : Z.Warmed39 s.vm) {a : Addr} {n : Nat} {f : Nat → Int64} (A : Ary Z h a .long n (fun i => .long (f i))) {j : Int32} {x : Int64} (hj : ¬ (j < 0 ∨ n ≤ j.toNatClampNeg)) (ha : n0 ≤ a) {pc : Nat} {ls : Array Slot} {rest : List Value} (hd : decode c.code pc = .ok (.lastore, 1))
    (k : ∀ T' h', Stn p l e R s m args below meth c n0 T' h' ck sk → Wr h h' a j.toNatClampNeg (.long x) → Ary Z h' a .long n (fun i => .long (if i = j.toNatClampNeg then x else f i)) → Go p e below Post T' (mkF m (pc + 1) ls rest)) : Go p e below Post T (mkF m pc ls (.long x :: .int j :: .ref a :: rest)) := by
  obtain ⟨eT, locs, N, Y⟩ := X
  have A0 := A
  obtain ⟨cl, A, r1, r2⟩ := A
  subst r1
  obtain ⟨T', h', X', e', W, st⟩ := stJ Y hx hZ eT A hj (g := mkF m pc ls (.long x :: .int j :: .ref a :: rest)) rfl rfl hd
  exact Go.st st (k T' h' ⟨e', _, Fr.snoc X' N ha, X'⟩ W ((A0.set W).congr fun i _ => by split <;> rfl))
/-! calls -/
theorem goStatic (X : Stn p l e R s m args below meth c n0 T h ck sk) (hx : p.tables.exec = Jvm.exec) (hZ : Z.Warmed39 s.vm) {own : String} {index : Nat} {y : MethodName} {bytes : ByteArray} {maxL : Nat} {ret : Option FieldType} {rm : Room} {as' : Array Value} {Q : Option Value → Heap → Prop}
    (hown : s.vm.findClass own = some m.cls) (w1 : (Cond.methodLink own index y).before a0 Z = true) (w2 : (Cond.static y).before a0 Z = true) (w3 : (Cond.initialized y.cls).before a0 Z = true) (w4 : (Cond.code y bytes maxL ret).before a0 Z = true)
    (hy : y.cls ≠ "java/lang/invoke/MethodHandle" ∧ y.cls ≠ "java/lang/invoke/VarHandle") (hM : Con l y bytes maxL ret rm [] Z n0 as' h Q) (W : Nat) (hf : rm.frames + 1 ≤ R.frames) (hl : W + (maxL + 11) + rm.locals ≤ R.locals)
    {pc : Nat} {ls : Array Slot} {stk : List Value} (hsize : ls.size = c.maxLocals) (argsL rest : List Value) (hlen : ∀ sig, parseMethodDescriptor y.desc = some sig → argsL.length = sig.parameters.length) (has : argsL.toArray = as') (hstk : stk = argsL.reverse ++ rest) (hW : (rest.map fun v => v.category).sum = W)
    (hd : decode c.code pc = .ok (.invokestatic index, 3)) (hc : ck + rm.cells ≤ R.cells) (hs : sk + rm.slots ≤ R.slots)
    (k : ∀ v T' h', Stn p l e R s m args below meth c n0 T' h' (ck + rm.cells) (sk + rm.slots) → Q v h' → Go p e below Post T' (mkF m (pc + 3) ls (v.toList ++ rest))) : Go p e below Post T (mkF m pc ls stk) := by
  obtain ⟨eT, locs, N, Y⟩ := X
  obtain ⟨v, _, ⟨T', L', k', n'⟩, -, X', ⟨Lc, ⟨hN, hQ⟩, l', y', z'⟩, st⟩ := Jvm.LawKit.callS Y hx (y := y) hown (mvT hZ w1) (mvT hZ w2) (mvT hZ w3) (mvT hZ w4) hy (backOf (W := W) (Q := fun v h' L => Fr n0 L ∧ Q v h') hM hZ w4 w3 hf hl) (g := mkF m pc ls stk) rfl hsize (argsL := argsL) (rest := rest) hlen hstk (by show 2 * 0 + _ ≤ _; omega) hd (fun _ _ => ⟨has, eT, hc, hs⟩)
  dsimp only [Pt.U, Pt.locs, Pt.cells, Pt.slots] at X' l' y' z' st hQ
  subst l' y' z'
  exact Go.st st (k v T' T'.heap ⟨rfl, _, Fr.app N hN, X'⟩ hQ)
theorem goCtor (X : Stn p l e R s m args below meth c n0 T h ck sk) (hx : p.tables.exec = Jvm.exec) (hZ : Z.Warmed39 s.vm) {own : String} {index : Nat} {y : MethodName} {bytes : ByteArray} {maxL : Nat} {rm : Room} {as' : Array Value} {Q : Option Value → Heap → Prop} (hy1 : y.name = "<init>")
    (hown : s.vm.findClass own = some m.cls) (w1 : (Cond.methodLink own index y).before a0 Z = true) (w2 : (Cond.instanceMethod y).before a0 Z = true) (w3 : (Cond.initialized y.cls).before a0 Z = true) (w4 : (Cond.code y bytes maxL none).before a0 Z = true)
    (hy : y.cls ≠ "java/lang/invoke/MethodHandle" ∧ y.cls ≠ "java/lang/invoke/VarHandle") (hM : Con l y bytes maxL none rm [] Z n0 as' h Q) (W : Nat) (hf : rm.frames + 1 ≤ R.frames) (hl : W + (maxL + 11) + rm.locals ≤ R.locals)
    {pc : Nat} {ls : Array Slot} {stk : List Value} (hsize : ls.size = c.maxLocals) (a : Addr) (argsL rest : List Value) (hlen : ∀ sig, parseMethodDescriptor y.desc = some sig → argsL.length = sig.parameters.length) (has : (.ref a :: argsL).toArray = as') (hstk : stk = argsL.reverse ++ .ref a :: rest) (hW : (rest.map fun v => v.category).sum = W)
    (hd : decode c.code pc = .ok (.invokespecial index, 3)) (hc : ck + rm.cells ≤ R.cells) (hs : sk + rm.slots ≤ R.slots)
    (k : ∀ v T' h', Stn p l e R s m args below meth c n0 T' h' (ck + rm.cells) (sk + rm.slots) → Q v h' → Go p e below Post T' (mkF m (pc + 3) ls (v.toList ++ rest))) : Go p e below Post T (mkF m pc ls stk) := by
  obtain ⟨eT, locs, N, Y⟩ := X
  obtain ⟨v, _, ⟨T', L', k', n'⟩, -, X', ⟨Lc, ⟨hN, hQ⟩, l', y', z'⟩, st⟩ := Y.specialBack hx (y := y) hy1 hown (mvT hZ w1) (mvT hZ w2) (mvT hZ w4) hy (backOf (W := W) (Q := fun v h' L => Fr n0 L ∧ Q v h') hM hZ w4 w3 hf hl) (g := mkF m pc ls stk) rfl hsize (Steps.refl _) (a := a) (argsL := argsL) (rest := rest) hlen hstk (by show 2 * 0 + _ ≤ _; omega) hd (fun _ _ => ⟨has, eT, hc, hs⟩)
  dsimp only [Pt.U, Pt.locs, Pt.cells, Pt.slots] at X' l' y' z' st hQ
  subst l' y' z'
  exact Go.st (fun t q => st.trans q) (k v T' T'.heap ⟨rfl, _, Fr.app N hN, X'⟩ hQ)
theorem goVirt (X : Stn p l e R s m args below meth c n0 T h ck sk) (hx : p.tables.exec = Jvm.exec) (hZ : Z.Warmed39 s.vm) {own C : String} {index : Nat} {y z : MethodName} {bytes : ByteArray} {maxL : Nat} {ret : Option FieldType} {rm : Room} {as' : Array Value} {Q : Option Value → Heap → Prop}
    (hown : s.vm.findClass own = some m.cls) (w1 : (Cond.methodLink own index y).before a0 Z = true) (w2 : (Cond.declares y).before a0 Z = true) (nf : NotFace s y) (w5 : (Cond.selects C y z).before a0 Z = true) (w6 : (Cond.instanceMethod z).before a0 Z = true) (w3 : (Cond.initialized z.cls).before a0 Z = true) (w4 : (Cond.code z bytes maxL ret).before a0 Z = true)
    (hy : y.cls ≠ "java/lang/invoke/MethodHandle" ∧ y.cls ≠ "java/lang/invoke/VarHandle") {a : Addr} (E : Exa Z h a C) (hM : Con l z bytes maxL ret rm [] Z n0 as' h Q) (W : Nat) (hf : rm.frames + 1 ≤ R.frames) (hl : W + (maxL + 11) + rm.locals ≤ R.locals)
    {pc : Nat} {ls : Array Slot} {stk : List Value} (hsize : ls.size = c.maxLocals) (argsL rest : List Value) (hlen : ∀ sig, parseMethodDescriptor y.desc = some sig → argsL.length = sig.parameters.length) (has : (.ref a :: argsL).toArray = as') (hstk : stk = argsL.reverse ++ .ref a :: rest) (hW : (rest.map fun v => v.category).sum = W)
    (hd : decode c.code pc = .ok (.invokevirtual index, 3)) (hc : ck + rm.cells ≤ R.cells) (hs : sk + rm.slots ≤ R.slots)
    (k : ∀ v T' h', Stn p l e R s m args below meth c n0 T' h' (ck + rm.cells) (sk + rm.slots) → Q v h' → Go p e below Post T' (mkF m (pc + 3) ls (v.toList ++ rest))) : Go p e below Post T (mkF m pc ls stk) := by
  obtain ⟨eT, locs, N, Y⟩ := X
  obtain ⟨cq, kq, q1, q2, q3⟩ := isOf hZ eT E
  obtain ⟨v, _, ⟨T', L', k', n'⟩, -, X', ⟨Lc, ⟨hN, hQ⟩, l', y', z'⟩, st⟩ := Y.virtualBack hx (y := y) (z := z) hown (mvT hZ w1) (mvT hZ w2) nf (mvT hZ w5) (mvT hZ w6) hy (backOf (W := W) (Q := fun v h' L => Fr n0 L ∧ Q v h') hM hZ w4 w3 hf hl) q1 q3 (g := mkF m pc ls stk) rfl hsize (Steps.refl _) (argsL := argsL) (rest := rest) hlen hstk (by show 2 * 0 + _ ≤ _; omega) hd (fun _ _ => ⟨has, eT, hc, hs⟩)
  dsimp only [Pt.U, Pt.locs, Pt.cells, Pt.slots] at X' l' y' z' st hQ
  subst l' y' z'
  exact Go.st (fun t q => st.trans q) (k v T' T'.heap ⟨rfl, _, Fr.app N hN, X'⟩ hQ)
theorem goVirtS (X : Stn p l e R s m args below meth c n0 T h ck sk) (hx : p.tables.exec = Jvm.exec) (hZ : Z.Warmed39 s.vm) {own : String} {index : Nat} {y : MethodName} {bytes : ByteArray} {maxL : Nat} {ret : Option FieldType} {rm : Room} {as' : Array Value} {Q : Option Value → Heap → Prop}
    (hown : s.vm.findClass own = some m.cls) (w1 : (Cond.methodLink own index y).before a0 Z = true) (w2 : (Cond.declares y).before a0 Z = true) (w5 : (Cond.selects y.cls y y).before a0 Z = true) (w6 : (Cond.instanceMethod y).before a0 Z = true) (w3 : (Cond.initialized y.cls).before a0 Z = true) (w4 : (Cond.code y bytes maxL ret).before a0 Z = true)
    (hy : y.cls ≠ "java/lang/invoke/MethodHandle" ∧ y.cls ≠ "java/lang/invoke/VarHandle") {a : Addr} (E : Exa Z h a y.cls) (hM : Con l y bytes maxL ret rm [] Z n0 as' h Q) (W : Nat) (hf : rm.frames + 1 ≤ R.frames) (hl : W + (maxL + 11) + rm.locals ≤ R.locals)
    {pc : Nat} {ls : Array Slot} {stk : List Value} (hsize : ls.size = c.maxLocals) (argsL rest : List Value) (hlen : ∀ sig, parseMethodDescriptor y.desc = some sig → argsL.length = sig.parameters.length) (has : (.ref a :: argsL).toArray = as') (hstk : stk = argsL.reverse ++ .ref a :: rest) (hW : (rest.map fun v => v.category).sum = W)
    (hd : decode c.code pc = .ok (.invokevirtual index, 3)) (hc : ck + rm.cells ≤ R.cells) (hs : sk + rm.slots ≤ R.slots)
    (k : ∀ v T' h', Stn p l e R s m args below meth c n0 T' h' (ck + rm.cells) (sk + rm.slots) → Q v h' → Go p e below Post T' (mkF m (pc + 3) ls (v.toList ++ rest))) : Go p e below Post T (mkF m pc ls stk) :=
  goVirt X hx hZ hown w1 w2 (notFace_of_selects (args := #[]) (mvT hZ w5)) w5 w6 w3 w4 hy E hM W hf hl hsize argsL rest hlen has hstk hW hd hc hs k
theorem goPriv (X : Stn p l e R s m args below meth c n0 T h ck sk) (hx : p.tables.exec = Jvm.exec) (hZ : Z.Warmed39 s.vm) {own C : String} {index : Nat} {y : MethodName} {bytes : ByteArray} {maxL : Nat} {ret : Option FieldType} {rm : Room} {as' : Array Value} {Q : Option Value → Heap → Prop}
    (hown : s.vm.findClass own = some m.cls) (w1 : (Cond.methodLink own index y).before a0 Z = true) (w6 : (Cond.instanceMethod y).before a0 Z = true) {kk : Nat} (wi : (Cond.instantiable y.cls kk).before a0 Z = true) (w7 : (Cond.privateMethod y).before a0 Z = true) (w3 : (Cond.initialized y.cls).before a0 Z = true) (w4 : (Cond.code y bytes maxL ret).before a0 Z = true)
    (hy : y.cls ≠ "java/lang/invoke/MethodHandle" ∧ y.cls ≠ "java/lang/invoke/VarHandle") {a : Addr} (E : Exa Z h a C) (hM : Con l y bytes maxL ret rm [] Z n0 as' h Q) (W : Nat) (hf : rm.frames + 1 ≤ R.frames) (hl : W + (maxL + 11) + rm.locals ≤ R.locals)
    {pc : Nat} {ls : Array Slot} {stk : List Value} (hsize : ls.size = c.maxLocals) (argsL rest : List Value) (hlen : ∀ sig, parseMethodDescriptor y.desc = some sig → argsL.length = sig.parameters.length) (has : (.ref a :: argsL).toArray = as') (hstk : stk = argsL.reverse ++ .ref a :: rest) (hW : (rest.map fun v => v.category).sum = W)
    (hd : decode c.code pc = .ok (.invokevirtual index, 3)) (hc : ck + rm.cells ≤ R.cells) (hs : sk + rm.slots ≤ R.slots)
    (k : ∀ v T' h', Stn p l e R s m args below meth c n0 T' h' (ck + rm.cells) (sk + rm.slots) → Q v h' → Go p e below Post T' (mkF m (pc + 3) ls (v.toList ++ rest))) : Go p e below Post T (mkF m pc ls stk) := by
  obtain ⟨eT, locs, N, Y⟩ := X
  obtain ⟨cq, q1, q2⟩ := E.cell
  have hi : (Cond.instantiable y.cls kk).before args s = true := mvT hZ wi
  obtain ⟨ci, ki, i1, i2, -, i4, -⟩ := Cond.instantiable_spec hi
  have i7 : ki.isInterface = false := by
    cases q : ki.isInterface
    · rfl
    · rw [q] at i4; cases i4
  have hsel : (Cond.selects y.cls y y).before args s = true := selects_self_of_private i1 i2 i7 (Cond.privateMethod_at (mvP hZ w7 (args := #[]))) (mvT hZ w6) hy
  obtain ⟨v, _, ⟨T', L', k', n'⟩, -, X', ⟨Lc, ⟨hN, hQ⟩, l', y', z'⟩, st⟩ := Y.privateBack hx (y := y) hown (mvT hZ w1) (mvT hZ w6) hsel (Cond.privateMethod_at (mvP hZ w7 (args := #[]))) (mvT hZ w4) hy (backOf (W := W) (Q := fun v h' L => Fr n0 L ∧ Q v h') hM hZ w4 w3 hf hl) (g := mkF m pc ls stk) rfl hsize (Steps.refl _) (a := a) (by rw [eT]; exact q1) q2 (argsL := argsL) (rest := rest) hlen hstk (by show 2 * 0 + _ ≤ _; omega) hd (fun _ _ => ⟨has, eT, hc, hs⟩)
  dsimp only [Pt.U, Pt.locs, Pt.cells, Pt.slots] at X' l' y' z' st hQ
  subst l' y' z'
  exact Go.st (fun t q => st.trans q) (k v T' T'.heap ⟨rfl, _, Fr.app N hN, X'⟩ hQ)
theorem own_i32_rem (x y : Int32) : x - (x / y) * y = x % y := by
  apply Int32.toInt_inj.mp
  rw [Int32.toInt_mod, Int32.toInt_sub, Int32.toInt_mul, Int32.toInt_div]
  have hb : x.toInt.tmod y.toInt = (x.toInt.tmod y.toInt).bmod (2 ^ 32) := by
    rw [← Int32.toInt_mod]
    exact (Int32.toInt_bmod _).symm
  rw [hb, Int.tmod_def]
  simp [Int.mul_comm]
theorem own_irem {T target : State} (X : At T m c below) (hx : p.tables.exec = Jvm.exec) {pc : Nat} {ls : Array Slot} {x y : Int32} {rest : List Value} (hd : decode c.code pc = .ok (.irem, 1)) (hy : y ≠ 0)
    (hr : Steps p.tables e below (T.setTop (mkF m (pc + 1) ls (.int (x % y) :: rest))) target) : Steps p.tables e below (T.setTop (mkF m pc ls (.int y :: .int x :: rest))) target :=
  XS.irem X hx (g := mkF m pc ls (.int y :: .int x :: rest)) rfl hd rfl hy (by rw [own_i32_rem]; exact hr)
end OwnLayer
section OwnLayer2
variable {p : Program} {l : Launch} {e : Env} {R : Room} {s : State} {m : MethodId} {args : Array Value} {below : List Frame} {meth : Method} {c : Code} {T T' : State} {h h' : Heap} {n0 ck sk : Nat} {Z : State} {a0 : Array Value} {Post : Outcome → State → Prop}
theorem sta_keep {C n d : String} {v : Value} {ws : List Addr} (F : Sta Z h C n d v) (K : Keep h h' ws) (q : ∀ x ∈ ws, ∃ C', Exa Z h x C') : Sta Z h' C n d v := by
  obtain ⟨cf, i, k, f, st, cell, h1, h2, h3, h4, h5, h6, h7⟩ := F
  refine ⟨cf, i, k, f, st, cell, h1, h2, h3, h4, K.2.1 st cell h5 fun z => ?_, h6, h7⟩
  obtain ⟨C', cell', k', e1, -, -, e4, -⟩ := q st z
  cases h5.symm.trans e1
  rw [h6] at e4
  cases e4
theorem goGetS (X : Stn p l e R s m args below meth c n0 T h ck sk) (hx : p.tables.exec = Jvm.exec) (hZ : Z.Warmed39 s.vm) {own R0 O n d host : String} {index : Nat} (hown : s.vm.findClass own = some m.cls) (w : (Cond.fieldLink own index R0 n d).before a0 Z = true ∨ (Cond.fieldLinkNest own index R0 n d host).before a0 Z = true) (via : Via Z R0 O n d)
    {v : Value} (F : Sta Z h O n d v) {pc : Nat} {ls : Array Slot} {st : List Value} (hd : decode c.code pc = .ok (.getstatic index, 3))
    (k : ∀ T', Stn p l e R s m args below meth c n0 T' h ck sk → Go p e below Post T' (mkF m (pc + 3) ls (v :: st))) : Go p e below Post T (mkF m pc ls st) := by
  obtain ⟨eT, locs, N, Y⟩ := X
  obtain ⟨T', X', e', stp⟩ := getS2 Y hx hZ hown w via eT F (g := mkF m pc ls st) rfl hd
  exact Go.st stp (k T' ⟨e', locs, N, X'⟩)
theorem goInstY (X : Stn p l e R s m args below meth c n0 T h ck sk) (hx : p.tables.exec = Jvm.exec) (hZ : Z.Warmed39 s.vm) {own K : String} {index : Nat} (hown : s.vm.findClass own = some m.cls) (w : (Cond.classLink own index K).before a0 Z = true) {a : Addr} (F : Ins Z h a K true)
    {pc : Nat} {ls : Array Slot} {rest : List Value} (hd : decode c.code pc = .ok (.instanceof index, 3)) (k : ∀ T', Stn p l e R s m args below meth c n0 T' h ck sk → Go p e below Post T' (mkF m (pc + 3) ls (.int 1 :: rest))) : Go p e below Post T (mkF m pc ls (.ref a :: rest)) := by
  obtain ⟨eT, locs, N, Y⟩ := X
  obtain ⟨T', X', e', st⟩ := instY Y hx hZ hown w eT F (g := mkF m pc ls (.ref a :: rest)) rfl rfl hd
  exact Go.st st (k T' ⟨e', locs, N, X'⟩)
theorem goInstNo (X : Stn p l e R s m args below meth c n0 T h ck sk) (hx : p.tables.exec = Jvm.exec) (hZ : Z.Warmed39 s.vm) {own K C : String} {index : Nat} (hown : s.vm.findClass own = some m.cls) (w : (Cond.classLink own index K).before a0 Z = true) {a : Addr} (E : Exa Z h a C) (F : ∃ c t, Z.vm.findClass C = some c ∧ Z.vm.findClass K = some t ∧ Z.vm.assignable c t = false)
    {pc : Nat} {ls : Array Slot} {rest : List Value} (hd : decode c.code pc = .ok (.instanceof index, 3)) (k : ∀ T', Stn p l e R s m args below meth c n0 T' h ck sk → Go p e below Post T' (mkF m (pc + 3) ls (.int 0 :: rest))) : Go p e below Post T (mkF m pc ls (.ref a :: rest)) := by
  obtain ⟨eT, locs, N, Y⟩ := X
  obtain ⟨T', X', e', st⟩ := instNo Y hx hZ hown w eT E F (g := mkF m pc ls (.ref a :: rest)) rfl rfl hd
  exact Go.st st (k T' ⟨e', locs, N, X'⟩)
theorem goInstNull (X : Stn p l e R s m args below meth c n0 T h ck sk) (hx : p.tables.exec = Jvm.exec) {index : Nat}
    {pc : Nat} {ls : Array Slot} {rest : List Value} (hd : decode c.code pc = .ok (.instanceof index, 3)) (k : Go p e below Post T (mkF m (pc + 3) ls (.int 0 :: rest))) : Go p e below Post T (mkF m pc ls (.null :: rest)) := by
  obtain ⟨eT, locs, N, Y⟩ := X
  exact Go.st (fun t q => Y.instanceofNull hx (g := mkF m pc ls (.null :: rest)) rfl rfl hd t q) k
/-- no object of the class C (whose superclasses are Object's chain) is one of K -/
theorem ns_root {O K : String} {kk : Nat} (w : (Cond.noSuperclass O).before a0 Z = true) (wk : (Cond.instantiable K kk).before a0 Z = true) (hn : O ≠ K) : NS Z O K := by
  obtain ⟨c, k, h1, h2, h3, -, -⟩ := Cond.noSuperclass_spec w
  obtain ⟨t, kt, g1, g2, -⟩ := Cond.instantiable_spec wk
  have ne := ids_ne h1 g1 hn
  refine ⟨c, t, h1, g1, fun fuel => ?_⟩
  cases fuel with
  | zero => rfl
  | succ f => simp [Vm.isSubclassAux, ne, h2, h3]
theorem ns_no {C S K : String} {kk : Nat} (w : (Cond.superclass C S).before a0 Z = true) (wk : (Cond.instantiable K kk).before a0 Z = true) (n : NS Z C K) (hn : C ≠ K) : ∃ c t, Z.vm.findClass C = some c ∧ Z.vm.findClass K = some t ∧ Z.vm.assignable c t = false := by
  obtain ⟨c, t, h0, g0, n3⟩ := n
  obtain ⟨p, k, kp, h1, h2, h3, h4, h5, -, h7⟩ := Cond.superclass_spec h0 w
  obtain ⟨t', k', g1, g2, g5, g6, -⟩ := Cond.instantiable_spec wk
  cases g0.symm.trans g1
  have g7 : k'.isInterface = false := by
    cases q : k'.isInterface
    · rfl
    · rw [q] at g6; cases g6
  have ne := ids_ne h0 g0 hn
  refine ⟨c, t, h0, g0, ?_⟩
  show Z.vm.assignableAux (255 + 1) c t = false
  simp [Vm.assignableAux, ne, h2, g2, h5, g5, g7, Vm.isSubclass, n3]
/-! arrays of references -/
def AO (Z : State) (h : Heap) (a : Addr) (C : String) : Prop := ∃ cl : Cell, h[a]? = some cl ∧ Ovr Z cl.cls C
theorem AO.ext {a : Addr} {C : String} (E : Ext h h') (F : AO Z h a C) : AO Z h' a C := by obtain ⟨cl, h1, h2⟩ := F; exact ⟨cl, E.2 _ _ h1, h2⟩
theorem AO.wr {a b : Addr} {C : String} {sl : Nat} {v : Value} (W : Wr h h' b sl v) (F : AO Z h a C) : AO Z h' a C := by
  obtain ⟨cl, h1, h2⟩ := F
  obtain ⟨cl', g1, g2, -⟩ := wr_at W h1
  exact ⟨cl', g1, by rw [g2]; exact h2⟩
theorem AO.keep {a : Addr} {C : String} {ws : List Addr} (F : AO Z h a C) (K : Keep h h' ws) : AO Z h' a C := by
  obtain ⟨cl, h1, h2⟩ := F
  obtain ⟨cl', g1, g2, -⟩ := K.2.2 a cl h1
  exact ⟨cl', g1, by rw [g2]; exact h2⟩
theorem goNewR (X : Stn p l e R s m args below meth c n0 T h ck sk) (hx : p.tables.exec = Jvm.exec) (hZ : Z.Warmed39 s.vm) {own C : String} {index : Nat} (hown : s.vm.findClass own = some m.cls) (w1 : (Cond.classLink own index C).before a0 Z = true) (w2 : (Cond.arrayOver (.object C)).before a0 Z = true)
    {pc : Nat} {ls : Array Slot} {n : Int32} {rest : List Value} (hd : decode c.code pc = .ok (.anewarray index, 3)) (hn : ¬ n < 0) {cap : Nat} (hcap : n.toNatClampNeg ≤ cap) (hb : cap * 8 ≤ 536870912) (hc : ck + 1 ≤ R.cells) (hl : sk + cap ≤ R.slots) {ad : String} (had : "[" ++ (FieldType.object C).toString = ad)
    (k : ∀ T' h' a, a = h.size → Stn p l e R s m args below meth c n0 T' h' (ck + 1) (sk + cap) → Ext h h' → Exa Z h' a ad → Ary Z h' a (.object C) n.toNatClampNeg (fun _ => .null) → AO Z h' a C → Go p e below Post T' (mkF m (pc + 3) ls (.ref a :: rest))) : Go p e below Post T (mkF m pc ls (.int n :: rest)) := by
  obtain ⟨eT, locs, N, Y⟩ := X
  obtain ⟨T', h', cA, X', e', E, A, Ex, O, st⟩ := newRE Y hx hZ hown w1 w2 eT (g := mkF m pc ls (.int n :: rest)) rfl hd rfl hn hcap hb hc hl had
  exact Go.st st (k T' h' _ rfl ⟨e', locs, N, X'⟩ E Ex (Ary.new A) ⟨_, A.1, O⟩)
theorem goLdR (X : Stn p l e R s m args below meth c n0 T h ck sk) (hx : p.tables.exec = Jvm.exec) (hZ : Z.Warmed39 s.vm) {a : Addr} {ty : FieldType} {n : Nat} {f : Nat → Value} (A : Ary Z h a ty n f) (hty : ty.isReference = true) {j : Int32} (hj : ¬ (j < 0 ∨ n ≤ j.toNatClampNeg)) {pc : Nat} {ls : Array Slot} {rest : List Value} (hd : decode c.code pc = .ok (.aaload, 1))
    (k : Go p e below Post T (mkF m (pc + 1) ls (f j.toNatClampNeg :: rest))) : Go p e below Post T (mkF m pc ls (.int j :: .ref a :: rest)) := by
  obtain ⟨eT, locs, N, Y⟩ := X
  obtain ⟨cl, A, r1, r2⟩ := A
  subst r1
  exact Go.st (fun t q => Y.aaload hx (j := j) (v := f j.toNatClampNeg) (by rw [eT]; exact A.1) (State.isArrayOf_alike hZ.alike A.2.1) hty A.2.2 hj (r2 _ (by omega)) (g := mkF m pc ls (.int j :: .ref a :: rest)) rfl rfl hd t q) k
theorem goStR (X : Stn p l e R s m args below meth c n0 T h ck sk) (hx : p.tables.exec = Jvm.exec) (hZ : Z.Warmed39 s.vm) {a y : Addr} {ty : FieldType} {n : Nat} {f : Nat → Value} {C : String} (A : Ary Z h a ty n f) (hty : ty.isReference = true) (O : AO Z h a C) (I : Ins Z h y C true) {j : Int32} (hj : ¬ (j < 0 ∨ n ≤ j.toNatClampNeg)) (ha : n0 ≤ a) {pc : Nat} {ls : Array Slot} {rest : List Value} (hd : decode c.code pc = .ok (.aastore, 1))
    (k : ∀ T' h', Stn p l e R s m args below meth c n0 T' h' ck sk → Wr h h' a j.toNatClampNeg (.ref y) → Ary Z h' a ty n (fun i => if i = j.toNatClampNeg then .ref y else f i) → Go p e below Post T' (mkF m (pc + 1) ls rest)) : Go p e below Post T (mkF m pc ls (.ref y :: .int j :: .ref a :: rest)) := by
  obtain ⟨eT, locs, N, Y⟩ := X
  have A0 := A
  obtain ⟨cl, A, r1, r2⟩ := A
  obtain ⟨cl2, o1, o2⟩ := O
  cases A.1.symm.trans o1
  subst r1
  obtain ⟨T', h', X', e', W, st⟩ := stR Y hx hZ eT A hj hty (Sto.of A o2 I) (g := mkF m pc ls (.ref y :: .int j :: .ref a :: rest)) rfl rfl hd
  exact Go.st st (k T' h' ⟨e', _, Fr.snoc X' N ha, X'⟩ W (A0.set W))
end OwnLayer2

section OwnLayer3
variable {p : Program} {l : Launch} {e : Env} {R : Room} {s : State} {m : MethodId} {args : Array Value} {below : List Frame} {meth : Method} {c : Code} {T T' : State} {h h' : Heap} {n0 ck sk : Nat} {Z : State} {a0 : Array Value} {Post : Outcome → State → Prop}
theorem own_ltn {i : Int32} {n : Nat} (hn : n < 2147483648) (h0 : ¬ i < 0) (hi : i < n.toInt32) : i.toNatClampNeg < n := by
  have e1 := nat_of h0
  rw [Int32.lt_iff_toInt_lt, Int32.toInt_ofNat_small (by omega)] at hi
  omega
theorem own_gen {i : Int32} {n : Nat} (hn : n < 2147483648) (h0 : ¬ i < 0) (hi : ¬ i < n.toInt32) : n ≤ i.toNatClampNeg := by
  have e1 := nat_of h0
  rw [Int32.lt_iff_toInt_lt, Int32.toInt_ofNat_small (by omega)] at hi
  omega
theorem own_succ {i : Int32} {n : Nat} (hn : n < 2147483648) (h0 : ¬ i < 0) (hi : i.toNatClampNeg < n) : ¬ (i + (1 : Int32)) < 0 ∧ (i + (1 : Int32)).toNatClampNeg = i.toNatClampNeg + 1 := by
  have e1 := nat_of h0
  have e2 : (i + (1 : Int32)).toInt = i.toInt + 1 := by rw [Jvm.Kit.i32_add (by simp; omega) (by simp; omega)]; rfl
  have h1 : ¬ (i + (1 : Int32)) < 0 := by rw [Int32.lt_iff_toInt_lt, e2]; simp; omega
  have e3 := nat_of h1
  exact ⟨h1, by omega⟩
theorem own_inb {i : Int32} {n : Nat} (h0 : ¬ i < 0) (hi : i.toNatClampNeg < n) : ¬ (i < 0 ∨ n ≤ i.toNatClampNeg) := fun z => z.elim h0 fun y => by omega
theorem z_of {n : Nat} (hn : n < 2147483648) : n.toInt32.toNatClampNeg = n ∧ ¬ n.toInt32 < 0 := by
  have e1 : n.toInt32.toInt = n := Int32.toInt_ofNat_small (by omega)
  have h0 : ¬ n.toInt32 < 0 := by rw [Int32.lt_iff_toInt_lt, e1]; simp
  have := nat_of h0
  exact ⟨by omega, h0⟩
theorem getD_map {n : Nat} {f : Nat → Value} {d : Value} {i : Nat} (hi : i < n) : ((List.range n).map f).getD i d = f i := by
  simp [List.getD_eq_getElem?_getD, hi]
theorem Ary.arv {a : Addr} {ty : FieldType} {n : Nat} {f : Nat → Value} (A : Ary Z h a ty n f) (hn : n < 2147483648) (hf : ∀ i, i < n → fits ty (f i) = true) (d : Value) : ∃ k, Arv Z h a k ty n.toInt32 ((List.range n).map f) d := by
  obtain ⟨cl, A, r1, r2⟩ := A
  refine ⟨cl.cls, cl, A, rfl, by rw [(z_of hn).1]; exact r1, (z_of hn).2, fun i hi => ?_, fun i hi => ?_⟩
  · rw [getD_map (r1 ▸ hi)]; exact r2 i (r1 ▸ hi)
  · rw [getD_map (r1 ▸ hi)]; exact hf i (r1 ▸ hi)
theorem Ary.ofArv {a : Addr} {k : ClassId} {ty : FieldType} {n : Nat} {vs : List Value} {d : Value} (A : Arv Z h a k ty n.toInt32 vs d) (hn : n < 2147483648) : Ary Z h a ty n (fun i => vs.getD i d) := by
  obtain ⟨cl, A, -, r2, -, r4, -⟩ := A
  rw [(z_of hn).1] at r2
  exact ⟨cl, A, r2, fun i hi => r4 i (r2 ▸ hi)⟩
theorem goCopy (X : Stn p l e R s m args below meth c n0 T h ck sk) (hx : p.tables.exec = Jvm.exec) (hZ : Z.Warmed39 s.vm) {own : String} {index : Nat} (hown : s.vm.findClass own = some m.cls)
    (w1 : (Cond.methodLink own index Jvm.Stand.acN).before a0 Z = true) (w2 : (Cond.native Jvm.Stand.acN).before a0 Z = true) (w3 : (Cond.static Jvm.Stand.acN).before a0 Z = true) (w4 : (Cond.initialized "java/lang/System").before a0 Z = true)
    {a b : Addr} {ty : FieldType} {n n' : Nat} {f f' : Nat → Value} (A : Ary Z h a ty n f) (B : Ary Z h b ty n' f') (hr : refKind ty = false) (hn : n < 2147483648) (hn' : n' < 2147483648) (hf1 : ∀ i, i < n → fits ty (f i) = true) (hf2 : ∀ i, i < n' → fits ty (f' i) = true)
    {sp dp nn : Int32} (h1 : ¬ sp < 0) (h2 : ¬ dp < 0) (h3 : ¬ nn < 0) (h4 : sp.toNatClampNeg + nn.toNatClampNeg ≤ n) (h5 : dp.toNatClampNeg + nn.toNatClampNeg ≤ n') (ge : n0 ≤ b)
    {pc : Nat} {ls : Array Slot} {rest : List Value} (hsize : ls.size = c.maxLocals) (hd : decode c.code pc = .ok (.invokestatic index, 3)) (hf : 1 ≤ R.frames) (W : Nat) (hW : (rest.map fun v => v.category).sum = W) (hlo : W + (nativeFrameWords "java/lang/System" "arraycopy" 5 + 11) ≤ R.locals)
    (k : ∀ T' h', Stn p l e R s m args below meth c n0 T' h' ck sk → Keep h h' [b] → Ary Z h' b ty n' (fun i => if dp.toNatClampNeg ≤ i ∧ i < dp.toNatClampNeg + nn.toNatClampNeg then f (sp.toNatClampNeg + (i - dp.toNatClampNeg)) else f' i) → Go p e below Post T' (mkF m (pc + 3) ls rest)) :
    Go p e below Post T (mkF m pc ls (.int nn :: .int dp :: .ref b :: .int sp :: .ref a :: rest)) := by
  obtain ⟨eT, locs, N, Y⟩ := X
  obtain ⟨k1, A1⟩ := A.arv hn hf1 .null
  obtain ⟨k2, B1⟩ := B.arv hn' hf2 .null
  obtain ⟨T', h', L, X', e', N', K, B', st⟩ := cpA Y hx hZ hown w1 w2 w3 w4 eT A1 B1 (Or.inl ⟨rfl, hr⟩) (sp := sp) (dp := dp) (nn := nn) h1 h2 h3 (by rw [(z_of hn).1]; exact h4) (by rw [(z_of hn').1]; exact h5) rfl (by simpa using h5) N ge (g := mkF m pc ls (.int nn :: .int dp :: .ref b :: .int sp :: .ref a :: rest)) rfl hsize rfl hd hf (W := W) (by show 2 * 0 + _ ≤ _; omega) hlo
  refine Go.st st (k T' h' ⟨e', L, N', X'⟩ K ((Ary.ofArv B' hn').congr fun i hi => ?_))
  simp only [List.getD_eq_getElem?_getD]
  by_cases c1 : i < dp.toNatClampNeg
  · rw [if_neg (by omega), List.append_assoc, List.getElem?_append_left (by simp; omega)]
    simp [List.getElem?_take, c1, hi]
  · by_cases c2 : i < dp.toNatClampNeg + nn.toNatClampNeg
    · rw [if_pos ⟨by omega, c2⟩, List.append_assoc, List.getElem?_append_right (by simp; omega), List.getElem?_append_left (by simp; omega)]
      have q1 : min dp.toNatClampNeg n' = dp.toNatClampNeg := by omega
      have q2 : i - dp.toNatClampNeg < nn.toNatClampNeg := by omega
      have q3 : sp.toNatClampNeg + (i - dp.toNatClampNeg) < n := by omega
      simp [q1, q2, q3]
    · rw [if_neg (by omega), List.append_assoc, List.getElem?_append_right (by simp; omega), List.getElem?_append_right (by simp; omega)]
      have q1 : min dp.toNatClampNeg n' = dp.toNatClampNeg := by omega
      have q2 : dp.toNatClampNeg + nn.toNatClampNeg + (i - dp.toNatClampNeg - nn.toNatClampNeg) = i := by omega
      simp [q1, q2, hi]
end OwnLayer3


theorem own_inj {u w : Int32} (h1 : ¬ u < 0) (h2 : ¬ w < 0) (e : u.toNatClampNeg = w.toNatClampNeg) : u = w := by
  have a1 := nat_of h1
  have a2 := nat_of h2
  exact Int32.toInt_inj.mp (by omega)
/-- a forest over the first n numbers: parents par, roots rt (a number beyond is its own root), heights d -/
def own_Sd (n : Nat) (par : Nat → Int32) (rt d : Nat → Nat) : Prop := ∀ v, v < n → ¬ par v < 0 ∧ (par v).toNatClampNeg < n ∧ rt (par v).toNatClampNeg = rt v ∧ ((par v).toNatClampNeg = v → rt v = v) ∧ ((par v).toNatClampNeg ≠ v → d (par v).toNatClampNeg < d v) ∧ rt v < n ∧ (par (rt v)).toNatClampNeg = rt v ∧ (v ≠ rt v → d (rt v) < d v)
def own_S (n : Nat) (par : Nat → Int32) (rt : Nat → Nat) : Prop := (∀ v, n ≤ v → rt v = v) ∧ ∃ d, own_Sd n par rt d
theorem own_S.congr {n : Nat} {par : Nat → Int32} {rt rt' : Nat → Nat} (h : own_S n par rt) (e : ∀ v, rt v = rt' v) : own_S n par rt' := by
  rw [← funext e]; exact h
/-- a path is shortened: node's parent becomes its root -/
theorem own_cmp {n : Nat} {par : Nat → Int32} {rt d : Nat → Nat} {nd rr : Int32} (h : own_Sd n par rt d) (h1 : nd.toNatClampNeg < n) (h0 : ¬ rr < 0) (hr : rr.toNatClampNeg < n) (e1 : rt nd.toNatClampNeg = rr.toNatClampNeg) (e2 : par rr.toNatClampNeg = rr) :
    own_Sd n (fun i => (if i = (nd).toNatClampNeg then rr else par i)) rt d := by
  have hR : rt rr.toNatClampNeg = rr.toNatClampNeg := (h _ hr).2.2.2.1 (by rw [e2])
  intro v hv
  obtain ⟨a1, a2, a3, a4, a5, a6, a7, a8⟩ := h v hv
  have key : ∀ u, u < n → ((if u = (nd).toNatClampNeg then rr else par u)).toNatClampNeg = (if u = nd.toNatClampNeg then rr.toNatClampNeg else (par u).toNatClampNeg) := fun u _ => by split <;> rfl
  have k7 : ((if rt v = (nd).toNatClampNeg then rr else par (rt v))).toNatClampNeg = rt v := by
    by_cases q : rt v = nd.toNatClampNeg
    · rw [if_pos q]
      have := (h (rt v) a6).2.2.2.1 a7
      rw [q] at this
      rw [q, ← this, e1]
    · rw [if_neg q]; exact a7
  by_cases q : v = nd.toNatClampNeg
  · subst q
    simp only [if_true]
    refine ⟨h0, hr, by rw [hR, e1], fun z => by rw [e1, z], fun z => ?_, a6, k7, a8⟩
    have := a8 (by rw [e1]; exact fun y => z y.symm)
    rw [e1] at this
    exact this
  · simp only [if_neg q]
    exact ⟨a1, a2, a3, a4, a5, a6, k7, a8⟩
def own_lk (rt : Nat → Nat) (x1 x2 r : Nat) (v : Nat) : Nat := if rt v = x1 ∨ rt v = x2 then r else rt v
/-- of two roots the one gets the other for its parent -/
theorem own_link {n : Nat} {par : Nat → Int32} {rt : Nat → Nat} {lo wi : Int32} (h : own_S n par rt) (h1 : lo.toNatClampNeg < n) (h2 : wi.toNatClampNeg < n) (h0 : ¬ wi < 0) (hne : lo.toNatClampNeg ≠ wi.toNatClampNeg) (e1 : rt lo.toNatClampNeg = lo.toNatClampNeg) (e2 : rt wi.toNatClampNeg = wi.toNatClampNeg) :
    own_S n (fun i => (if i = (lo).toNatClampNeg then wi else par i)) (own_lk rt lo.toNatClampNeg wi.toNatClampNeg wi.toNatClampNeg) := by
  obtain ⟨hge, d, hd⟩ := h
  generalize hL : lo.toNatClampNeg = L at *
  generalize hW : wi.toNatClampNeg = W at *
  have lk : ∀ v, own_lk rt L W W v = if rt v = L then W else rt v := by
    intro v
    unfold own_lk
    by_cases q : rt v = L
    · simp [q]
    · by_cases q2 : rt v = W
      · simp [q2]
      · simp [q, q2]
  refine ⟨fun v hv => ?_, fun v => if rt v = L then d v + d W + 1 else d v, fun v hv => ?_⟩
  · have z := hge v hv
    rw [lk, z, if_neg (by omega)]
  · obtain ⟨a1, a2, a3, a4, a5, a6, a7, a8⟩ := hd v hv
    have pW := (hd W h2).2.2.2.2.2.2.1
    rw [e2] at pW
    simp only [lk]
    by_cases q : v = L
    · subst q
      simp only [if_true, hW, e1, e2]
      have hWL : ¬ W = v := fun z => hne z.symm
      simp only [if_neg hWL, if_true, ite_self]
      refine ⟨h0, h2, trivial, fun z => z, fun _ => by omega, h2, ?_, fun _ => by omega⟩
      exact pW
    · simp only [if_neg q, a3]
      by_cases q2 : rt v = L
      · have hWL : ¬ W = L := fun z => hne z.symm
        simp only [q2, if_true, e2, if_neg hWL]
        refine ⟨a1, a2, trivial, fun z => absurd (q2 ▸ (a4 z).symm) q, fun z => ?_, h2, pW, fun _ => by omega⟩
        have := a5 z
        omega
      · simp only [if_neg q2]
        have hrr : rt (rt v) = rt v := (hd _ a6).2.2.2.1 a7
        simp only [hrr, if_neg q2]
        exact ⟨a1, a2, trivial, a4, a5, a6, a7, a8⟩
/-- more numbers, each its own root -/
theorem own_grow {n n' : Nat} {par par' : Nat → Int32} {rt : Nat → Nat} (h : own_S n par rt) (hle : n ≤ n') (hb : n' ≤ 46) (e : ∀ v, v < n' → par' v = (if v < n then par v else Int32.ofNat v)) : own_S n' par' rt := by
  obtain ⟨hge, d, hd⟩ := h
  have lit : ∀ v, v < n' → (Int32.ofNat v).toNatClampNeg = v ∧ ¬ (Int32.ofNat v) < 0 := fun v hv => by
    have e1 : (Int32.ofNat v).toInt = v := Int32.toInt_ofNat_of_lt (by omega)
    have h0 : ¬ (Int32.ofNat v) < 0 := by rw [Int32.lt_iff_toInt_lt, e1]; simp
    have := nat_of h0
    exact ⟨by omega, h0⟩
  refine ⟨fun v hv => hge v (by omega), d, fun v hv => ?_⟩
  by_cases q : v < n
  · obtain ⟨a1, a2, a3, a4, a5, a6, a7, a8⟩ := hd v q
    rw [e v hv, if_pos q, e (rt v) (by omega), if_pos a6]
    exact ⟨a1, by omega, a3, a4, a5, by omega, a7, a8⟩
  · have z := hge v (by omega)
    rw [z, e v hv, if_neg q, (lit v hv).1]
    exact ⟨(lit v hv).2, hv, z, fun _ => rfl, fun y => absurd rfl y, hv, rfl, fun y => absurd rfl y⟩
def own_exp (v a b k d f1 f2 rA rC : Int32) : Int32 := if v = a ∨ (¬ f1 = 0 ∧ v = b) then rA else if v = k ∨ (¬ f2 = 0 ∧ v = d) then rC else v
def own_R (a b k d f1 f2 rA rC : Int32) (v : Nat) : Nat := if v = a.toNatClampNeg ∨ (¬ f1 = 0 ∧ v = b.toNatClampNeg) then rA.toNatClampNeg else if v = k.toNatClampNeg ∨ (¬ f2 = 0 ∧ v = d.toNatClampNeg) then rC.toNatClampNeg else v
theorem own_eqn {u w : Int32} (h1 : ¬ u < 0) (h2 : ¬ w < 0) : u = w ↔ u.toNatClampNeg = w.toNatClampNeg := ⟨fun z => by rw [z], own_inj h1 h2⟩
theorem own_fin {r v a b k d f1 f2 rA rC : Int32} (hr : ¬ r < 0 ∧ r.toNatClampNeg = own_R a b k d f1 f2 rA rC v.toNatClampNeg) (hv : ¬ v < 0) (ha : ¬ a < 0) (hb : ¬ b < 0) (hk : ¬ k < 0) (hd : ¬ d < 0) (hA : ¬ rA < 0) (hC : ¬ rC < 0) : r = own_exp v a b k d f1 f2 rA rC := by
  obtain ⟨h0, e⟩ := hr
  unfold own_R at e
  unfold own_exp
  simp only [own_eqn hv ha, own_eqn hv hb, own_eqn hv hk, own_eqn hv hd]
  split at e
  · rw [if_pos (by assumption)]; exact own_inj h0 hA e
  · rw [if_neg (by assumption)]
    split at e
    · rw [if_pos (by assumption)]; exact own_inj h0 hC e
    · rw [if_neg (by assumption)]; exact own_inj h0 hv e

theorem d9_0 : decode jdk_29_method_69_code 0 = .ok (.iload_n 0, 1) := by decide +kernel
theorem d9_1 : decode jdk_29_method_69_code 1 = .ok (.iload_n 1, 1) := by decide +kernel
theorem d9_2 : decode jdk_29_method_69_code 2 = .ok (.if_icmp .gt 7, 3) := by decide +kernel
theorem d9_5 : decode jdk_29_method_69_code 5 = .ok (.iload_n 0, 1) := by decide +kernel
theorem d9_6 : decode jdk_29_method_69_code 6 = .ok (.goto 4, 3) := by decide +kernel
theorem d9_9 : decode jdk_29_method_69_code 9 = .ok (.iload_n 1, 1) := by decide +kernel
theorem d9_10 : decode jdk_29_method_69_code 10 = .ok (.ireturn, 1) := by decide +kernel
theorem pn_9 : plainFor (⟨"java/lang/Math", "min", "(II)I"⟩ : MethodName) = true := Jvm.Free.JP.mathPlain rfl (by decide +kernel)
theorem ef_rm9 (m : MethodId) (x0 : Int32) (x1 : Int32) : entryFrame m #[(.int x0), (.int x1)] 2 = mkF m 0 #[.val (.int x0), .val (.int x1)] [] := by first | (simp [entryFrame, mkF, argsToLocals, Value.category]; done) | rfl
def Q9 (Z : State) (n0 : Nat) (h0 : Heap) (b : Int32) (d : Int32) (v : Option Value) (h : Heap) : Prop := ∃ (r : Int32), v = some (.int r) ∧ h = h0 ∧ ((r = b ∧ ¬ d < b) ∨ (r = d ∧ d < b))
set_option maxRecDepth 65536 in
set_option maxHeartbeats 40000000 in
theorem rm9 (l : Launch) (Z : State) (a0 : Array Value) (hw : ∀ d ∈ tables_1, d.before a0 Z = true) (ws : List Jvm.Cond) (n0 : Nat) (h0 : Heap) (b : Int32) (d : Int32) (sz0 : n0 ≤ h0.size) :
    Con l (⟨"java/lang/Math", "min", "(II)I"⟩ : MethodName) jdk_29_method_69_code 2 (some .int) ({ frames := 0, cells := 0, slots := 0, locals := 0 } : Room) ws Z n0 #[(.int b), (.int d)] h0 (Q9 Z n0 h0 b d) := by
  refine Con.body pn_9 ?_
  intro p e s m below meth c s₁ hx hby hml hown hnm hret hlk hZ X0
  have hown : s.vm.findClass "java/lang/Math" = some m.cls := hown
  have hnm : meth.name = "min" := hnm
  rw [show entryFrame m #[(.int b), (.int d)] 2 = mkF m 0 #[.val (.int b), .val (.int d)] [] from ef_rm9 m b d]
  show Go p e below (PostW s n0 (0 : Nat) (0 : Nat) (Q9 Z n0 h0 b d)) s₁ (mkF m 0 #[.val (.int b), .val (.int d)] [])
  refine Go.st (T' := s₁) (g' := (mkF m 1 #[.val (.int b), .val (.int d)] [(.int b)])) (fun t_ k_ => XS.iloadN X0.here hx rfl (hb hby d9_0) rfl k_) ?_
  refine Go.st (T' := s₁) (g' := (mkF m 2 #[.val (.int b), .val (.int d)] [(.int d), (.int b)])) (fun t_ k_ => XS.iloadN X0.here hx rfl (hb hby d9_1) rfl k_) ?_
  by_cases hc2 : d < b
  · skip
    refine Go.st (T' := s₁) (g' := (mkF m 9 #[.val (.int b), .val (.int d)] [])) (fun t_ k_ => XS.icmpYes X0.here hx rfl (pc0 := 2) (pc' := 9) rfl (hb hby d9_2) rfl (tlt hc2).2.2.1 (by decide) (by decide) k_) ?_
    refine Go.st (T' := s₁) (g' := (mkF m 10 #[.val (.int b), .val (.int d)] [(.int d)])) (fun t_ k_ => XS.iloadN X0.here hx rfl (hb hby d9_9) rfl k_) ?_
    refine goRetI X0 hx hlk hret (hb hby d9_10) (by decide) (by decide) ?_
    refine ⟨d, rfl, rfl, ?_⟩
    · first | exact Or.inl ⟨rfl, hc2⟩ | exact Or.inr ⟨rfl, hc2⟩
  · skip
    refine Go.st (T' := s₁) (g' := (mkF m 5 #[.val (.int b), .val (.int d)] [])) (fun t_ k_ => XS.icmpNo X0.here hx rfl (hb hby d9_2) rfl (flt hc2).2.2.1 k_) ?_
    refine Go.st (T' := s₁) (g' := (mkF m 6 #[.val (.int b), .val (.int d)] [(.int b)])) (fun t_ k_ => XS.iloadN X0.here hx rfl (hb hby d9_5) rfl k_) ?_
    refine Go.st (T' := s₁) (g' := (mkF m 10 #[.val (.int b), .val (.int d)] [(.int b)])) (fun t_ k_ => XS.goto X0.here hx rfl (pc0 := 6) (pc' := 10) rfl (hb hby d9_6) (by decide) (by decide) k_) ?_
    refine goRetI X0 hx hlk hret (hb hby d9_10) (by decide) (by decide) ?_
    refine ⟨b, rfl, rfl, ?_⟩
    · first | exact Or.inl ⟨rfl, hc2⟩ | exact Or.inr ⟨rfl, hc2⟩
theorem d6_0 : decode jdk_29_method_65_code 0 = .ok (.iload_n 0, 1) := by decide +kernel
theorem d6_1 : decode jdk_29_method_65_code 1 = .ok (.iload_n 1, 1) := by decide +kernel
theorem d6_2 : decode jdk_29_method_65_code 2 = .ok (.if_icmp .lt 7, 3) := by decide +kernel
theorem d6_5 : decode jdk_29_method_65_code 5 = .ok (.iload_n 0, 1) := by decide +kernel
theorem d6_6 : decode jdk_29_method_65_code 6 = .ok (.goto 4, 3) := by decide +kernel
theorem d6_9 : decode jdk_29_method_65_code 9 = .ok (.iload_n 1, 1) := by decide +kernel
theorem d6_10 : decode jdk_29_method_65_code 10 = .ok (.ireturn, 1) := by decide +kernel
theorem pn_6 : plainFor (⟨"java/lang/Math", "max", "(II)I"⟩ : MethodName) = true := Jvm.Free.JP.mathPlain rfl (by decide +kernel)
theorem ef_rm6 (m : MethodId) (x0 : Int32) (x1 : Int32) : entryFrame m #[(.int x0), (.int x1)] 2 = mkF m 0 #[.val (.int x0), .val (.int x1)] [] := by first | (simp [entryFrame, mkF, argsToLocals, Value.category]; done) | rfl
def Q6 (Z : State) (n0 : Nat) (h0 : Heap) (b : Int32) (d : Int32) (v : Option Value) (h : Heap) : Prop := ∃ (r : Int32), v = some (.int r) ∧ h = h0 ∧ ((r = b ∧ ¬ b < d) ∨ (r = d ∧ b < d))
set_option maxRecDepth 65536 in
set_option maxHeartbeats 40000000 in
theorem rm6 (l : Launch) (Z : State) (a0 : Array Value) (hw : ∀ d ∈ tables_1, d.before a0 Z = true) (ws : List Jvm.Cond) (n0 : Nat) (h0 : Heap) (b : Int32) (d : Int32) (sz0 : n0 ≤ h0.size) :
    Con l (⟨"java/lang/Math", "max", "(II)I"⟩ : MethodName) jdk_29_method_65_code 2 (some .int) ({ frames := 0, cells := 0, slots := 0, locals := 0 } : Room) ws Z n0 #[(.int b), (.int d)] h0 (Q6 Z n0 h0 b d) := by
  refine Con.body pn_6 ?_
  intro p e s m below meth c s₁ hx hby hml hown hnm hret hlk hZ X0
  have hown : s.vm.findClass "java/lang/Math" = some m.cls := hown
  have hnm : meth.name = "max" := hnm
  rw [show entryFrame m #[(.int b), (.int d)] 2 = mkF m 0 #[.val (.int b), .val (.int d)] [] from ef_rm6 m b d]
  show Go p e below (PostW s n0 (0 : Nat) (0 : Nat) (Q6 Z n0 h0 b d)) s₁ (mkF m 0 #[.val (.int b), .val (.int d)] [])
  refine Go.st (T' := s₁) (g' := (mkF m 1 #[.val (.int b), .val (.int d)] [(.int b)])) (fun t_ k_ => XS.iloadN X0.here hx rfl (hb hby d6_0) rfl k_) ?_
  refine Go.st (T' := s₁) (g' := (mkF m 2 #[.val (.int b), .val (.int d)] [(.int d), (.int b)])) (fun t_ k_ => XS.iloadN X0.here hx rfl (hb hby d6_1) rfl k_) ?_
  by_cases hc2 : b < d
  · skip
    refine Go.st (T' := s₁) (g' := (mkF m 9 #[.val (.int b), .val (.int d)] [])) (fun t_ k_ => XS.icmpYes X0.here hx rfl (pc0 := 2) (pc' := 9) rfl (hb hby d6_2) rfl (tlt hc2).1 (by decide) (by decide) k_) ?_
    refine Go.st (T' := s₁) (g' := (mkF m 10 #[.val (.int b), .val (.int d)] [(.int d)])) (fun t_ k_ => XS.iloadN X0.here hx rfl (hb hby d6_9) rfl k_) ?_
    refine goRetI X0 hx hlk hret (hb hby d6_10) (by decide) (by decide) ?_
    refine ⟨d, rfl, rfl, ?_⟩
    · first | exact Or.inl ⟨rfl, hc2⟩ | exact Or.inr ⟨rfl, hc2⟩
  · skip
    refine Go.st (T' := s₁) (g' := (mkF m 5 #[.val (.int b), .val (.int d)] [])) (fun t_ k_ => XS.icmpNo X0.here hx rfl (hb hby d6_2) rfl (flt hc2).1 k_) ?_
    refine Go.st (T' := s₁) (g' := (mkF m 6 #[.val (.int b), .val (.int d)] [(.int b)])) (fun t_ k_ => XS.iloadN X0.here hx rfl (hb hby d6_5) rfl k_) ?_
    refine Go.st (T' := s₁) (g' := (mkF m 10 #[.val (.int b), .val (.int d)] [(.int b)])) (fun t_ k_ => XS.goto X0.here hx rfl (pc0 := 6) (pc' := 10) rfl (hb hby d6_6) (by decide) (by decide) k_) ?_
    refine goRetI X0 hx hlk hret (hb hby d6_10) (by decide) (by decide) ?_
    refine ⟨b, rfl, rfl, ?_⟩
    · first | exact Or.inl ⟨rfl, hc2⟩ | exact Or.inr ⟨rfl, hc2⟩

def own_cpf (n : Nat) (f : Nat → Int32) (i : Nat) : Int32 := if i < n then f i else 0
theorem own_cpne {n : Nat} {k : Int32} (hk : ¬ k < 0 ∧ k.toNatClampNeg ≤ 46) (hn : n < k.toNatClampNeg) : ¬ k = (n).toInt32 := fun z => by
  have := (z_of (n := n) (by omega)).1
  rw [z, this] at hn
  omega
theorem own_cpmin {n : Nat} {k r : Int32} (hk : ¬ k < 0 ∧ k.toNatClampNeg ≤ 46) (hn : n < k.toNatClampNeg) (hr : (r = (n).toInt32 ∧ ¬ k < (n).toInt32) ∨ (r = k ∧ k < (n).toInt32)) : r = (n).toInt32 := by
  rcases hr with ⟨e, -⟩ | ⟨-, z⟩
  · exact e
  · have h1 := nat_of hk.1
    rw [Int32.lt_iff_toInt_lt, Int32.toInt_ofNat_small (by omega)] at z
    omega

theorem d8_0 : decode jdk_65_method_123_code 0 = .ok (.iload_n 1, 1) := by decide +kernel
theorem d8_1 : decode jdk_65_method_123_code 1 = .ok (.aload_n 0, 1) := by decide +kernel
theorem d8_2 : decode jdk_65_method_123_code 2 = .ok (.arraylength, 1) := by decide +kernel
theorem d8_3 : decode jdk_65_method_123_code 3 = .ok (.if_icmp .ne 11, 3) := by decide +kernel
theorem d8_14 : decode jdk_65_method_123_code 14 = .ok (.iload_n 1, 1) := by decide +kernel
theorem d8_15 : decode jdk_65_method_123_code 15 = .ok (.newarray .int, 2) := by decide +kernel
theorem d8_17 : decode jdk_65_method_123_code 17 = .ok (.astore_n 2, 1) := by decide +kernel
theorem d8_18 : decode jdk_65_method_123_code 18 = .ok (.aload_n 0, 1) := by decide +kernel
theorem d8_19 : decode jdk_65_method_123_code 19 = .ok (.iconst 0, 1) := by decide +kernel
theorem d8_20 : decode jdk_65_method_123_code 20 = .ok (.aload_n 2, 1) := by decide +kernel
theorem d8_21 : decode jdk_65_method_123_code 21 = .ok (.iconst 0, 1) := by decide +kernel
theorem d8_22 : decode jdk_65_method_123_code 22 = .ok (.aload_n 0, 1) := by decide +kernel
theorem d8_23 : decode jdk_65_method_123_code 23 = .ok (.arraylength, 1) := by decide +kernel
theorem d8_24 : decode jdk_65_method_123_code 24 = .ok (.iload_n 1, 1) := by decide +kernel
theorem d8_25 : decode jdk_65_method_123_code 25 = .ok (.invokestatic 304, 3) := by decide +kernel
theorem d8_28 : decode jdk_65_method_123_code 28 = .ok (.invokestatic 150, 3) := by decide +kernel
theorem d8_31 : decode jdk_65_method_123_code 31 = .ok (.aload_n 2, 1) := by decide +kernel
theorem d8_32 : decode jdk_65_method_123_code 32 = .ok (.areturn, 1) := by decide +kernel
theorem pn_8 : plainFor (⟨"java/util/Arrays", "copyOf", "([II)[I"⟩ : MethodName) = true := plainFor_of_name (by first | (simp [plainName, overriddenIn]; done) | decide +kernel)
theorem pd_e58254ff : parseMethodDescriptor "(II)I" = some ⟨[.int, .int], some .int⟩ := by decide +kernel
theorem ef_rm8 (m : MethodId) (x0 : Addr) (x1 : Int32) : entryFrame m #[(.ref x0), (.int x1)] 3 = mkF m 0 #[.val (.ref x0), .val (.int x1), .unset] [] := by first | (simp [entryFrame, mkF, argsToLocals, Value.category]; done) | rfl
def Q8 (Z : State) (n0 : Nat) (h0 : Heap) (sA : Addr) (k : Int32) (n : Nat) (f : Nat → Int32) (v : Option Value) (h : Heap) : Prop := ∃ (o : Addr), v = some (.ref o) ∧ Keep h0 h [] ∧ h0.size ≤ o ∧ Exa Z h o "[I" ∧ Ary Z h o .int k.toNatClampNeg (fun i => .int (own_cpf n f i))
set_option maxRecDepth 65536 in
set_option maxHeartbeats 40000000 in
theorem rm8 (l : Launch) (Z : State) (a0 : Array Value) (hw : ∀ d ∈ tables_1, d.before a0 Z = true) (ws : List Jvm.Cond) (n0 : Nat) (h0 : Heap) (sA : Addr) (k : Int32) (n : Nat) (f : Nat → Int32) (sz0 : n0 ≤ h0.size) (g0 : Exa Z h0 sA "[I") (g1 : Ary Z h0 sA .int n (fun i => .int (f i))) (hk : ¬ k < 0 ∧ k.toNatClampNeg ≤ 46) (hn : n < k.toNatClampNeg) :
    Con l (⟨"java/util/Arrays", "copyOf", "([II)[I"⟩ : MethodName) jdk_65_method_123_code 3 (some (.array .int)) ({ frames := 1, cells := 1, slots := 46, locals := 60 } : Room) ws Z n0 #[(.ref sA), (.int k)] h0 (Q8 Z n0 h0 sA k n f) := by
  refine Con.body pn_8 ?_
  intro p e s m below meth c s₁ hx hby hml hown hnm hret hlk hZ X0
  have hown : s.vm.findClass "java/util/Arrays" = some m.cls := hown
  have hnm : meth.name = "copyOf" := hnm
  have K0 : Keep h0 h0 [] := Keep.refl _ _
  rw [show entryFrame m #[(.ref sA), (.int k)] 3 = mkF m 0 #[.val (.ref sA), .val (.int k), .unset] [] from ef_rm8 m sA k]
  show Go p e below (PostW s n0 (1 : Nat) (46 : Nat) (Q8 Z n0 h0 sA k n f)) s₁ (mkF m 0 #[.val (.ref sA), .val (.int k), .unset] [])
  refine Go.st (T' := s₁) (g' := (mkF m 1 #[.val (.ref sA), .val (.int k), .unset] [(.int k)])) (fun t_ k_ => XS.iloadN X0.here hx rfl (hb hby d8_0) rfl k_) ?_
  refine Go.st (T' := s₁) (g' := (mkF m 2 #[.val (.ref sA), .val (.int k), .unset] [(.ref sA), (.int k)])) (fun t_ k_ => XS.aloadN X0.here hx rfl (hb hby d8_1) rfl rfl k_) ?_
  refine goLen X0 hx hZ g1 (hb hby d8_2) ?_
  show Go p e below _ s₁ (mkF m 3 #[.val (.ref sA), .val (.int k), .unset] [(.int (n).toInt32), (.int k)])
  have hc3 : ¬ (k = (n).toInt32) := own_cpne hk hn
  refine Go.st (T' := s₁) (g' := (mkF m 14 #[.val (.ref sA), .val (.int k), .unset] [])) (fun t_ k_ => XS.icmpYes X0.here hx rfl (pc0 := 3) (pc' := 14) rfl (hb hby d8_3) rfl (feq hc3).2 (by decide) (by decide) k_) ?_
  refine Go.st (T' := s₁) (g' := (mkF m 15 #[.val (.ref sA), .val (.int k), .unset] [(.int k)])) (fun t_ k_ => XS.iloadN X0.here hx rfl (hb hby d8_14) rfl k_) ?_
  refine goNewA (aty := .int) X0 hx hZ (hw _ (List.mem_of_getElem? (i := 10) rfl)) (hb hby d8_15) hk.1 (cap := 46) hk.2 (by decide) (by decide) (by decide) (ad := "[I") (by decide) fun T1 h1 nb gb1 X1 E1 A1 B1 => ?_
  have ge1 : n0 ≤ nb := gb1 ▸ sz0
  have ne1_sA : sA ≠ nb := gb1 ▸ Nat.ne_of_lt g0.lt
  have fr1 : h0.size ≤ nb := gb1 ▸ K0.1
  have f1_0 : Exa Z h1 sA "[I" := g0.ext E1
  have f1_1 : Ary Z h1 sA .int n (fun i => .int (f i)) := g1.ext E1
  have sz1 : n0 ≤ h1.size := Nat.le_trans sz0 E1.1
  have K1 : Keep h0 h1 [] := K0.ext E1
  have B1' : Ary Z h1 nb .int (k).toNatClampNeg (fun _ => .int 0) := B1
  show Go p e below _ T1 (mkF m 17 #[.val (.ref sA), .val (.int k), .unset] [(.ref nb)])
  refine Go.st (T' := T1) (g' := (mkF m 18 #[.val (.ref sA), .val (.int k), .val (.ref nb)] [])) (fun t_ k_ => XS.astoreN X1.here hx rfl (hb hby d8_17) rfl rfl (l' := #[.val (.ref sA), .val (.int k), .val (.ref nb)]) rfl k_) ?_
  refine Go.st (T' := T1) (g' := (mkF m 19 #[.val (.ref sA), .val (.int k), .val (.ref nb)] [(.ref sA)])) (fun t_ k_ => XS.aloadN X1.here hx rfl (hb hby d8_18) rfl rfl k_) ?_
  refine Go.st (T' := T1) (g' := (mkF m 20 #[.val (.ref sA), .val (.int k), .val (.ref nb)] [(.int (0 : Int32)), (.ref sA)])) (fun t_ k_ => XS.iconst X1.here hx rfl (hb hby d8_19) k_) ?_
  refine Go.st (T' := T1) (g' := (mkF m 21 #[.val (.ref sA), .val (.int k), .val (.ref nb)] [(.ref nb), (.int (0 : Int32)), (.ref sA)])) (fun t_ k_ => XS.aloadN X1.here hx rfl (hb hby d8_20) rfl rfl k_) ?_
  refine Go.st (T' := T1) (g' := (mkF m 22 #[.val (.ref sA), .val (.int k), .val (.ref nb)] [(.int (0 : Int32)), (.ref nb), (.int (0 : Int32)), (.ref sA)])) (fun t_ k_ => XS.iconst X1.here hx rfl (hb hby d8_21) k_) ?_
  refine Go.st (T' := T1) (g' := (mkF m 23 #[.val (.ref sA), .val (.int k), .val (.ref nb)] [(.ref sA), (.int (0 : Int32)), (.ref nb), (.int (0 : Int32)), (.ref sA)])) (fun t_ k_ => XS.aloadN X1.here hx rfl (hb hby d8_22) rfl rfl k_) ?_
  refine goLen X1 hx hZ f1_1 (hb hby d8_23) ?_
  show Go p e below _ T1 (mkF m 24 #[.val (.ref sA), .val (.int k), .val (.ref nb)] [(.int (n).toInt32), (.int (0 : Int32)), (.ref nb), (.int (0 : Int32)), (.ref sA)])
  refine Go.st (T' := T1) (g' := (mkF m 25 #[.val (.ref sA), .val (.int k), .val (.ref nb)] [(.int k), (.int (n).toInt32), (.int (0 : Int32)), (.ref nb), (.int (0 : Int32)), (.ref sA)])) (fun t_ k_ => XS.iloadN X1.here hx rfl (hb hby d8_24) rfl k_) ?_
  refine goStatic X1 hx hZ (y := (⟨"java/lang/Math", "min", "(II)I"⟩ : MethodName)) hown (hw _ (List.mem_of_getElem? (i := 41) rfl)) (hw _ (List.mem_of_getElem? (i := 42) rfl)) (hw _ (List.mem_of_getElem? (i := 31) rfl)) (hw _ (List.mem_of_getElem? (i := 43) rfl)) (by decide) (rm9 l Z a0 hw [] n0 h1 (n).toInt32 k sz1) 4 (by decide) (by decide) (by rw [hml]; rfl) [(.int (n).toInt32), (.int k)] [(.int (0 : Int32)), (.ref nb), (.int (0 : Int32)), (.ref sA)] (lenOf pd_e58254ff rfl) rfl rfl rfl (hb hby d8_25) (by decide) (by decide) fun v2 T2 h2 X2 hq2 => ?_
  obtain ⟨r_2, rfl, eh2, hr_2⟩ := hq2
  rw [eh2] at X2
  have er2 := own_cpmin hk hn hr_2
  subst er2
  show Go p e below _ T2 (mkF m 28 #[.val (.ref sA), .val (.int k), .val (.ref nb)] [(.int (n).toInt32), (.int (0 : Int32)), (.ref nb), (.int (0 : Int32)), (.ref sA)])
  refine goCopy X2 hx hZ hown (hw _ (List.mem_of_getElem? (i := 44) rfl)) (hw _ (List.mem_of_getElem? (i := 47) rfl)) (hw _ (List.mem_of_getElem? (i := 45) rfl)) (hw _ (List.mem_of_getElem? (i := 46) rfl)) f1_1 B1' rfl (by omega) (by omega) (fun i _ => rfl) (fun i _ => rfl) (sp := (0 : Int32)) (dp := (0 : Int32)) (nn := (n).toInt32) (by decide) (by decide) (z_of (n := n) (by omega)).2 (by rw [(z_of (n := n) (by omega)).1]; show 0 + n ≤ n; omega) (by rw [(z_of (n := n) (by omega)).1]; show 0 + n ≤ _; omega) ge1 (by rw [hml]; rfl) (hb hby d8_28) (by decide) 0 rfl (by decide) fun T3 h3 X3 K3c B3 => ?_
  have f3_0 : Exa Z h3 sA "[I" := f1_0.keep K3c
  have f3_1 : Ary Z h3 sA .int n (fun i => .int (f i)) := f1_1.keep K3c (ninS ne1_sA nin0)
  have f3_5 : Exa Z h3 nb "[I" := A1.keep K3c
  have sz3 : n0 ≤ h3.size := Nat.le_trans sz1 K3c.1
  have K3 : Keep h0 h3 [] := K1.trans K3c (allS (Or.inr fr1) all0)
  have BB3 : Ary Z h3 nb .int (k).toNatClampNeg (fun i => .int (own_cpf n f i)) := B3.congr (fun i _ => by rw [(z_of (n := n) (by omega)).1]; show (if 0 ≤ i ∧ i < 0 + n then Value.int (f (0 + (i - 0))) else _) = _; by_cases z : i < n <;> simp [z, own_cpf])
  show Go p e below _ T3 (mkF m 31 #[.val (.ref sA), .val (.int k), .val (.ref nb)] [])
  refine Go.st (T' := T3) (g' := (mkF m 32 #[.val (.ref sA), .val (.int k), .val (.ref nb)] [(.ref nb)])) (fun t_ k_ => XS.aloadN X3.here hx rfl (hb hby d8_31) rfl rfl k_) ?_
  refine goRetA X3 hx hlk hret rfl (hb hby d8_32) (by decide) (by decide) ?_
  refine ⟨nb, rfl, K3, fr1, f3_5, BB3⟩
theorem d1_0 : decode prog_21_method_1_code 0 = .ok (.aload_n 0, 1) := by decide +kernel
theorem d1_1 : decode prog_21_method_1_code 1 = .ok (.invokespecial 1, 3) := by decide +kernel
theorem d1_4 : decode prog_21_method_1_code 4 = .ok (.aload_n 0, 1) := by decide +kernel
theorem d1_5 : decode prog_21_method_1_code 5 = .ok (.iconst 0, 1) := by decide +kernel
theorem d1_6 : decode prog_21_method_1_code 6 = .ok (.newarray .int, 2) := by decide +kernel
theorem d1_8 : decode prog_21_method_1_code 8 = .ok (.putfield 7, 3) := by decide +kernel
theorem d1_11 : decode prog_21_method_1_code 11 = .ok (.aload_n 0, 1) := by decide +kernel
theorem d1_12 : decode prog_21_method_1_code 12 = .ok (.iconst 0, 1) := by decide +kernel
theorem d1_13 : decode prog_21_method_1_code 13 = .ok (.newarray .int, 2) := by decide +kernel
theorem d1_15 : decode prog_21_method_1_code 15 = .ok (.putfield 13, 3) := by decide +kernel
theorem d1_18 : decode prog_21_method_1_code 18 = .ok (.return_, 1) := by decide +kernel
theorem pn_1 : plainFor (⟨"com/example/cellsight/cellsight/analysis/UnionFind", "<init>", "()V"⟩ : MethodName) = true := plainFor_of_name (by first | (simp [plainName, overriddenIn]; done) | decide +kernel)
theorem ef_rm1 (m : MethodId) (x0 : Addr) : entryFrame m #[(.ref x0)] 1 = mkF m 0 #[.val (.ref x0)] [] := by first | (simp [entryFrame, mkF, argsToLocals, Value.category]; done) | rfl
def Q1 (Z : State) (n0 : Nat) (h0 : Heap) (a : Addr) (u1 : Value) (u2 : Value) (v : Option Value) (h : Heap) : Prop := ∃ (pA : Addr) (kA : Addr), v = none ∧ Keep h0 h [a] ∧ Exa Z h a "com/example/cellsight/cellsight/analysis/UnionFind" ∧ Fld Z h a "com/example/cellsight/cellsight/analysis/UnionFind" "parent" "[I" (.ref pA) ∧ Fld Z h a "com/example/cellsight/cellsight/analysis/UnionFind" "rank" "[I" (.ref kA) ∧ Exa Z h pA "[I" ∧ Exa Z h kA "[I" ∧ Ary Z h pA .int 0 (fun _ => .int 0) ∧ Ary Z h kA .int 0 (fun _ => .int 0) ∧ n0 ≤ pA ∧ n0 ≤ kA ∧ pA ≠ kA
set_option maxRecDepth 65536 in
set_option maxHeartbeats 40000000 in
theorem rm1 (l : Launch) (Z : State) (a0 : Array Value) (hw : ∀ d ∈ tables_1, d.before a0 Z = true) (ws : List Jvm.Cond) (n0 : Nat) (h0 : Heap) (a : Addr) (u1 : Value) (u2 : Value) (sz0 : n0 ≤ h0.size) (g0 : Exa Z h0 a "com/example/cellsight/cellsight/analysis/UnionFind") (g1 : Fld Z h0 a "com/example/cellsight/cellsight/analysis/UnionFind" "parent" "[I" u1) (g2 : Fld Z h0 a "com/example/cellsight/cellsight/analysis/UnionFind" "rank" "[I" u2) (g3 : n0 ≤ a) :
    Con l (⟨"com/example/cellsight/cellsight/analysis/UnionFind", "<init>", "()V"⟩ : MethodName) prog_21_method_1_code 1 none ({ frames := 1, cells := 2, slots := 0, locals := 13 } : Room) ws Z n0 #[(.ref a)] h0 (Q1 Z n0 h0 a u1 u2) := by
  refine Con.body pn_1 ?_
  intro p e s m below meth c s₁ hx hby hml hown hnm hret hlk hZ X0
  have hown : s.vm.findClass "com/example/cellsight/cellsight/analysis/UnionFind" = some m.cls := hown
  have hnm : meth.name = "<init>" := hnm
  have K0 : Keep h0 h0 [a] := Keep.refl _ _
  rw [show entryFrame m #[(.ref a)] 1 = mkF m 0 #[.val (.ref a)] [] from ef_rm1 m a]
  show Go p e below (PostW s n0 (2 : Nat) (0 : Nat) (Q1 Z n0 h0 a u1 u2)) s₁ (mkF m 0 #[.val (.ref a)] [])
  refine Go.st (T' := s₁) (g' := (mkF m 1 #[.val (.ref a)] [(.ref a)])) (fun t_ k_ => XS.aloadN X0.here hx rfl (hb hby d1_0) rfl rfl k_) ?_
  refine goInit X0 hx hZ hown (hw _ (List.mem_of_getElem? (i := 7) rfl)) (hw _ (List.mem_of_getElem? (i := 8) rfl)) (hw _ (List.mem_of_getElem? (i := 9) rfl)) (by rw [hml]; rfl) (hb hby d1_1) (by decide) (W := 0) (Nat.le_of_eq rfl) (by decide) fun T1 X1 => ?_
  show Go p e below _ T1 (mkF m 4 #[.val (.ref a)] [])
  refine Go.st (T' := T1) (g' := (mkF m 5 #[.val (.ref a)] [(.ref a)])) (fun t_ k_ => XS.aloadN X1.here hx rfl (hb hby d1_4) rfl rfl k_) ?_
  refine Go.st (T' := T1) (g' := (mkF m 6 #[.val (.ref a)] [(.int (0 : Int32)), (.ref a)])) (fun t_ k_ => XS.iconst X1.here hx rfl (hb hby d1_5) k_) ?_
  refine goNewA (aty := .int) X1 hx hZ (hw _ (List.mem_of_getElem? (i := 10) rfl)) (hb hby d1_6) (by decide) (cap := 0) (by decide) (by decide) (by decide) (by decide) (ad := "[I") (by decide) fun T2 h2 b2 gb2 X2 E2 A2 B2 => ?_
  have ge2 : n0 ≤ b2 := gb2 ▸ sz0
  have ne2_a : a ≠ b2 := gb2 ▸ Nat.ne_of_lt g0.lt
  have fr2 : h0.size ≤ b2 := gb2 ▸ K0.1
  have f2_0 : Exa Z h2 a "com/example/cellsight/cellsight/analysis/UnionFind" := g0.ext E2
  have f2_1 : Fld Z h2 a "com/example/cellsight/cellsight/analysis/UnionFind" "parent" "[I" u1 := g1.ext E2
  have f2_2 : Fld Z h2 a "com/example/cellsight/cellsight/analysis/UnionFind" "rank" "[I" u2 := g2.ext E2
  have sz2 : n0 ≤ h2.size := Nat.le_trans sz0 E2.1
  have K2 : Keep h0 h2 [a] := K0.ext E2
  have B2' : Ary Z h2 b2 .int 0 (fun _ => .int 0) := B2
  show Go p e below _ T2 (mkF m 8 #[.val (.ref a)] [(.ref b2), (.ref a)])
  refine goPut X2 hx hZ hown (host := "") (Or.inl (hw _ (List.mem_of_getElem? (i := 11) rfl))) Via.refl f2_1 f2_0 (Or.inl (hw _ (List.mem_of_getElem? (i := 12) rfl))) (hw _ (List.mem_of_getElem? (i := 2) rfl)) (ty := (.array .int)) (by decide) rfl rfl g3 (hb hby d1_8) fun T3 h3 X3 W3 => ?_
  have Fw3 := f2_1.same W3
  have f3_0 : Exa Z h3 a "com/example/cellsight/cellsight/analysis/UnionFind" := f2_0.wr W3
  have f3_1 : Fld Z h3 a "com/example/cellsight/cellsight/analysis/UnionFind" "rank" "[I" u2 := f2_2.other W3 (Or.inr (slot_ne (Or.inl (hw _ (List.mem_of_getElem? (i := 14) rfl))) (Or.inl (hw _ (List.mem_of_getElem? (i := 12) rfl))) (by decide) (t := (.array .int)) (t' := (.array .int)) (by decide) (by decide)))
  have f3_6 : Exa Z h3 b2 "[I" := A2.wr W3
  have f3_7 : Ary Z h3 b2 .int 0 (fun _ => .int 0) := B2'.other W3 ne2_a.symm
  have sz3 : n0 ≤ h3.size := Nat.le_trans sz2 (Keep.of_wr W3).1
  have K3 : Keep h0 h3 [a] := K2.wr W3 (Or.inl (List.mem_of_getElem? (i := 0) rfl))
  show Go p e below _ T3 (mkF m 11 #[.val (.ref a)] [])
  refine Go.st (T' := T3) (g' := (mkF m 12 #[.val (.ref a)] [(.ref a)])) (fun t_ k_ => XS.aloadN X3.here hx rfl (hb hby d1_11) rfl rfl k_) ?_
  refine Go.st (T' := T3) (g' := (mkF m 13 #[.val (.ref a)] [(.int (0 : Int32)), (.ref a)])) (fun t_ k_ => XS.iconst X3.here hx rfl (hb hby d1_12) k_) ?_
  refine goNewA (aty := .int) X3 hx hZ (hw _ (List.mem_of_getElem? (i := 10) rfl)) (hb hby d1_13) (by decide) (cap := 0) (by decide) (by decide) (by decide) (by decide) (ad := "[I") (by decide) fun T4 h4 b4 gb4 X4 E4 A4 B4 => ?_
  have ge4 : n0 ≤ b4 := gb4 ▸ sz3
  have ne4_a : a ≠ b4 := gb4 ▸ Nat.ne_of_lt f3_0.lt
  have ne4_b2 : b2 ≠ b4 := gb4 ▸ Nat.ne_of_lt f3_6.lt
  have fr4 : h0.size ≤ b4 := gb4 ▸ K3.1
  have f4_0 : Exa Z h4 a "com/example/cellsight/cellsight/analysis/UnionFind" := f3_0.ext E4
  have f4_1 : Fld Z h4 a "com/example/cellsight/cellsight/analysis/UnionFind" "rank" "[I" u2 := f3_1.ext E4
  have f4_6 : Exa Z h4 b2 "[I" := f3_6.ext E4
  have f4_7 : Ary Z h4 b2 .int 0 (fun _ => .int 0) := f3_7.ext E4
  have f4_8 : Fld Z h4 a "com/example/cellsight/cellsight/analysis/UnionFind" "parent" "[I" (.ref b2) := Fw3.ext E4
  have sz4 : n0 ≤ h4.size := Nat.le_trans sz3 E4.1
  have K4 : Keep h0 h4 [a] := K3.ext E4
  have B4' : Ary Z h4 b4 .int 0 (fun _ => .int 0) := B4
  show Go p e below _ T4 (mkF m 15 #[.val (.ref a)] [(.ref b4), (.ref a)])
  refine goPut X4 hx hZ hown (host := "") (Or.inl (hw _ (List.mem_of_getElem? (i := 13) rfl))) Via.refl f4_1 f4_0 (Or.inl (hw _ (List.mem_of_getElem? (i := 14) rfl))) (hw _ (List.mem_of_getElem? (i := 2) rfl)) (ty := (.array .int)) (by decide) rfl rfl g3 (hb hby d1_15) fun T5 h5 X5 W5 => ?_
  have Fw5 := f4_1.same W5
  have f5_0 : Exa Z h5 a "com/example/cellsight/cellsight/analysis/UnionFind" := f4_0.wr W5
  have f5_5 : Exa Z h5 b2 "[I" := f4_6.wr W5
  have f5_6 : Ary Z h5 b2 .int 0 (fun _ => .int 0) := f4_7.other W5 ne2_a.symm
  have f5_7 : Fld Z h5 a "com/example/cellsight/cellsight/analysis/UnionFind" "parent" "[I" (.ref b2) := f4_8.other W5 (Or.inr (slot_ne (Or.inl (hw _ (List.mem_of_getElem? (i := 12) rfl))) (Or.inl (hw _ (List.mem_of_getElem? (i := 14) rfl))) (by decide) (t := (.array .int)) (t' := (.array .int)) (by decide) (by decide)))
  have f5_12 : Exa Z h5 b4 "[I" := A4.wr W5
  have f5_13 : Ary Z h5 b4 .int 0 (fun _ => .int 0) := B4'.other W5 ne4_a.symm
  have sz5 : n0 ≤ h5.size := Nat.le_trans sz4 (Keep.of_wr W5).1
  have K5 : Keep h0 h5 [a] := K4.wr W5 (Or.inl (List.mem_of_getElem? (i := 0) rfl))
  show Go p e below _ T5 (mkF m 18 #[.val (.ref a)] [])
  refine goRetV X5 hx hlk hret (hb hby d1_18) (by decide) (by decide) ?_
  refine ⟨b2, b4, rfl, K5, f5_0, f5_7, Fw5, f5_5, f5_12, f5_6, f5_13, ge2, ge4, ne4_b2⟩
theorem d3_0 : decode prog_21_method_2_code 0 = .ok (.iload_n 1, 1) := by decide +kernel
theorem d3_1 : decode prog_21_method_2_code 1 = .ok (.aload_n 0, 1) := by decide +kernel
theorem d3_2 : decode prog_21_method_2_code 2 = .ok (.getfield 7, 3) := by decide +kernel
theorem d3_5 : decode prog_21_method_2_code 5 = .ok (.arraylength, 1) := by decide +kernel
theorem d3_6 : decode prog_21_method_2_code 6 = .ok (.if_icmp .lt 5, 3) := by decide +kernel
theorem d3_9 : decode prog_21_method_2_code 9 = .ok (.iload_n 1, 1) := by decide +kernel
theorem d3_10 : decode prog_21_method_2_code 10 = .ok (.ireturn, 1) := by decide +kernel
theorem d3_11 : decode prog_21_method_2_code 11 = .ok (.iload_n 1, 1) := by decide +kernel
theorem d3_12 : decode prog_21_method_2_code 12 = .ok (.istore_n 2, 1) := by decide +kernel
theorem d3_13 : decode prog_21_method_2_code 13 = .ok (.aload_n 0, 1) := by decide +kernel
theorem d3_14 : decode prog_21_method_2_code 14 = .ok (.getfield 7, 3) := by decide +kernel
theorem d3_17 : decode prog_21_method_2_code 17 = .ok (.iload_n 2, 1) := by decide +kernel
theorem d3_18 : decode prog_21_method_2_code 18 = .ok (.iaload, 1) := by decide +kernel
theorem d3_19 : decode prog_21_method_2_code 19 = .ok (.iload_n 2, 1) := by decide +kernel
theorem d3_20 : decode prog_21_method_2_code 20 = .ok (.if_icmp .eq 13, 3) := by decide +kernel
theorem d3_23 : decode prog_21_method_2_code 23 = .ok (.aload_n 0, 1) := by decide +kernel
theorem d3_24 : decode prog_21_method_2_code 24 = .ok (.getfield 7, 3) := by decide +kernel
theorem d3_27 : decode prog_21_method_2_code 27 = .ok (.iload_n 2, 1) := by decide +kernel
theorem d3_28 : decode prog_21_method_2_code 28 = .ok (.iaload, 1) := by decide +kernel
theorem d3_29 : decode prog_21_method_2_code 29 = .ok (.istore_n 2, 1) := by decide +kernel
theorem d3_30 : decode prog_21_method_2_code 30 = .ok (.goto (-17), 3) := by decide +kernel
theorem d3_33 : decode prog_21_method_2_code 33 = .ok (.iload_n 1, 1) := by decide +kernel
theorem d3_34 : decode prog_21_method_2_code 34 = .ok (.istore_n 3, 1) := by decide +kernel
theorem d3_35 : decode prog_21_method_2_code 35 = .ok (.aload_n 0, 1) := by decide +kernel
theorem d3_36 : decode prog_21_method_2_code 36 = .ok (.getfield 7, 3) := by decide +kernel
theorem d3_39 : decode prog_21_method_2_code 39 = .ok (.iload_n 3, 1) := by decide +kernel
theorem d3_40 : decode prog_21_method_2_code 40 = .ok (.iaload, 1) := by decide +kernel
theorem d3_41 : decode prog_21_method_2_code 41 = .ok (.iload_n 2, 1) := by decide +kernel
theorem d3_42 : decode prog_21_method_2_code 42 = .ok (.if_icmp .eq 24, 3) := by decide +kernel
theorem d3_45 : decode prog_21_method_2_code 45 = .ok (.aload_n 0, 1) := by decide +kernel
theorem d3_46 : decode prog_21_method_2_code 46 = .ok (.getfield 7, 3) := by decide +kernel
theorem d3_49 : decode prog_21_method_2_code 49 = .ok (.iload_n 3, 1) := by decide +kernel
theorem d3_50 : decode prog_21_method_2_code 50 = .ok (.iaload, 1) := by decide +kernel
theorem d3_51 : decode prog_21_method_2_code 51 = .ok (.istore 4, 2) := by decide +kernel
theorem d3_53 : decode prog_21_method_2_code 53 = .ok (.aload_n 0, 1) := by decide +kernel
theorem d3_54 : decode prog_21_method_2_code 54 = .ok (.getfield 7, 3) := by decide +kernel
theorem d3_57 : decode prog_21_method_2_code 57 = .ok (.iload_n 3, 1) := by decide +kernel
theorem d3_58 : decode prog_21_method_2_code 58 = .ok (.iload_n 2, 1) := by decide +kernel
theorem d3_59 : decode prog_21_method_2_code 59 = .ok (.iastore, 1) := by decide +kernel
theorem d3_60 : decode prog_21_method_2_code 60 = .ok (.iload 4, 2) := by decide +kernel
theorem d3_62 : decode prog_21_method_2_code 62 = .ok (.istore_n 3, 1) := by decide +kernel
theorem d3_63 : decode prog_21_method_2_code 63 = .ok (.goto (-28), 3) := by decide +kernel
theorem d3_66 : decode prog_21_method_2_code 66 = .ok (.iload_n 2, 1) := by decide +kernel
theorem d3_67 : decode prog_21_method_2_code 67 = .ok (.ireturn, 1) := by decide +kernel
theorem pn_3 : plainFor (⟨"com/example/cellsight/cellsight/analysis/UnionFind", "find", "(I)I"⟩ : MethodName) = true := plainFor_of_name (by first | (simp [plainName, overriddenIn]; done) | decide +kernel)
theorem ef_rm3 (m : MethodId) (x0 : Addr) (x1 : Int32) : entryFrame m #[(.ref x0), (.int x1)] 5 = mkF m 0 #[.val (.ref x0), .val (.int x1), .unset, .unset, .unset] [] := by first | (simp [entryFrame, mkF, argsToLocals, Value.category]; done) | rfl
def Q3 (Z : State) (n0 : Nat) (h0 : Heap) (a : Addr) (y : Int32) (pA : Addr) (n : Nat) (par : Nat → Int32) (rt : Nat → Nat) (v : Option Value) (h : Heap) : Prop := ∃ (r : Int32) (par' : Nat → Int32), v = some (.int r) ∧ Keep h0 h [pA] ∧ Ary Z h pA .int n (fun i => .int (par' i)) ∧ (own_S n par' rt) ∧ (¬ r < 0 ∧ r.toNatClampNeg = rt y.toNatClampNeg)
set_option maxRecDepth 65536 in
set_option maxHeartbeats 40000000 in
theorem rm3 (l : Launch) (Z : State) (a0 : Array Value) (hw : ∀ d ∈ tables_1, d.before a0 Z = true) (ws : List Jvm.Cond) (n0 : Nat) (h0 : Heap) (a : Addr) (y : Int32) (pA : Addr) (n : Nat) (par : Nat → Int32) (rt : Nat → Nat) (sz0 : n0 ≤ h0.size) (g0 : Exa Z h0 a "com/example/cellsight/cellsight/analysis/UnionFind") (g1 : Fld Z h0 a "com/example/cellsight/cellsight/analysis/UnionFind" "parent" "[I" (.ref pA)) (g2 : Exa Z h0 pA "[I") (g3 : Ary Z h0 pA .int n (fun i => .int (par i))) (g4 : n0 ≤ pA) (hS : own_S n par rt) (hn : n ≤ 46) (hy : ¬ y < 0) :
    Con l (⟨"com/example/cellsight/cellsight/analysis/UnionFind", "find", "(I)I"⟩ : MethodName) prog_21_method_2_code 5 (some .int) ({ frames := 0, cells := 0, slots := 0, locals := 0 } : Room) ws Z n0 #[(.ref a), (.int y)] h0 (Q3 Z n0 h0 a y pA n par rt) := by
  refine Con.body pn_3 ?_
  intro p e s m below meth c s₁ hx hby hml hown hnm hret hlk hZ X0
  have hown : s.vm.findClass "com/example/cellsight/cellsight/analysis/UnionFind" = some m.cls := hown
  have hnm : meth.name = "find" := hnm
  have K0 : Keep h0 h0 [pA] := Keep.refl _ _
  rw [show entryFrame m #[(.ref a), (.int y)] 5 = mkF m 0 #[.val (.ref a), .val (.int y), .unset, .unset, .unset] [] from ef_rm3 m a y]
  show Go p e below (PostW s n0 (0 : Nat) (0 : Nat) (Q3 Z n0 h0 a y pA n par rt)) s₁ (mkF m 0 #[.val (.ref a), .val (.int y), .unset, .unset, .unset] [])
  obtain ⟨hge, d, hd⟩ := hS
  refine Go.st (T' := s₁) (g' := (mkF m 1 #[.val (.ref a), .val (.int y), .unset, .unset, .unset] [(.int y)])) (fun t_ k_ => XS.iloadN X0.here hx rfl (hb hby d3_0) rfl k_) ?_
  refine Go.st (T' := s₁) (g' := (mkF m 2 #[.val (.ref a), .val (.int y), .unset, .unset, .unset] [(.ref a), (.int y)])) (fun t_ k_ => XS.aloadN X0.here hx rfl (hb hby d3_1) rfl rfl k_) ?_
  refine goGet X0 hx hZ hown (host := "") (Or.inl (hw _ (List.mem_of_getElem? (i := 11) rfl))) Via.refl g1 (hb hby d3_2) fun T1 X1 => ?_
  show Go p e below _ T1 (mkF m 5 #[.val (.ref a), .val (.int y), .unset, .unset, .unset] [(.ref pA), (.int y)])
  refine goLen X1 hx hZ g3 (hb hby d3_5) ?_
  show Go p e below _ T1 (mkF m 6 #[.val (.ref a), .val (.int y), .unset, .unset, .unset] [(.int (n).toInt32), (.int y)])
  by_cases hc6 : y < (n).toInt32
  · skip
    refine Go.st (T' := T1) (g' := (mkF m 11 #[.val (.ref a), .val (.int y), .unset, .unset, .unset] [])) (fun t_ k_ => XS.icmpYes X1.here hx rfl (pc0 := 6) (pc' := 11) rfl (hb hby d3_6) rfl (tlt hc6).1 (by decide) (by decide) k_) ?_
    refine Go.st (T' := T1) (g' := (mkF m 12 #[.val (.ref a), .val (.int y), .unset, .unset, .unset] [(.int y)])) (fun t_ k_ => XS.iloadN X1.here hx rfl (hb hby d3_11) rfl k_) ?_
    refine Go.st (T' := T1) (g' := (mkF m 13 #[.val (.ref a), .val (.int y), .val (.int y), .unset, .unset] [])) (fun t_ k_ => XS.istoreN X1.here hx rfl (hb hby d3_12) rfl (l' := #[.val (.ref a), .val (.int y), .val (.int y), .unset, .unset]) rfl k_) ?_
    have J13 : ∀ (k_J13 : Nat) (rr : Int32) (T_J13 : State) (h_J13 : Heap), (d rr.toNatClampNeg) = k_J13 → Stn p l e ({ frames := 0, cells := 0, slots := 0, locals := 0 } : Room) s m #[(.ref a), (.int y)] below meth c n0 T_J13 h_J13 0 0 → n0 ≤ h_J13.size → Keep h0 h_J13 [pA] → Exa Z h_J13 a "com/example/cellsight/cellsight/analysis/UnionFind" → Fld Z h_J13 a "com/example/cellsight/cellsight/analysis/UnionFind" "parent" "[I" (.ref pA) → Exa Z h_J13 pA "[I" → n0 ≤ pA → Ary Z h_J13 pA .int n (fun i => .int (par i)) → (¬ rr < 0) → (rr.toNatClampNeg < n) → (rt rr.toNatClampNeg = rt y.toNatClampNeg) → Go p e below (PostW s n0 (0 : Nat) (0 : Nat) (Q3 Z n0 h0 a y pA n par rt)) T_J13 (mkF m 13 #[.val (.ref a), .val (.int y), .val (.int rr), .unset, .unset] []) := by
      intro k_J13
      induction k_J13 using Nat.strongRecOn with
      | _ k_J13 ih_J13 =>
        intro rr T_J13 h_J13 hk_J13 X_J13 sz_J13 K_J13 g0_J13 g1_J13 g2_J13 g3_J13 g4_J13 h2 h3 h4
        refine Go.st (T' := T_J13) (g' := (mkF m 14 #[.val (.ref a), .val (.int y), .val (.int rr), .unset, .unset] [(.ref a)])) (fun t_ k_ => XS.aloadN X_J13.here hx rfl (hb hby d3_13) rfl rfl k_) ?_
        refine goGet X_J13 hx hZ hown (host := "") (Or.inl (hw _ (List.mem_of_getElem? (i := 11) rfl))) Via.refl g1_J13 (hb hby d3_14) fun T2 X2 => ?_
        show Go p e below _ T2 (mkF m 17 #[.val (.ref a), .val (.int y), .val (.int rr), .unset, .unset] [(.ref pA)])
        refine Go.st (T' := T2) (g' := (mkF m 18 #[.val (.ref a), .val (.int y), .val (.int rr), .unset, .unset] [(.int rr), (.ref pA)])) (fun t_ k_ => XS.iloadN X2.here hx rfl (hb hby d3_17) rfl k_) ?_
        refine goLdI X2 hx hZ (f := (fun i => (par i))) g4_J13 (j := rr) (own_inb h2 h3) (hb hby d3_18) ?_
        show Go p e below _ T2 (mkF m 19 #[.val (.ref a), .val (.int y), .val (.int rr), .unset, .unset] [(.int (par (rr).toNatClampNeg))])
        refine Go.st (T' := T2) (g' := (mkF m 20 #[.val (.ref a), .val (.int y), .val (.int rr), .unset, .unset] [(.int rr), (.int (par (rr).toNatClampNeg))])) (fun t_ k_ => XS.iloadN X2.here hx rfl (hb hby d3_19) rfl k_) ?_
        by_cases hc20 : (par (rr).toNatClampNeg) = rr
        · skip
          refine Go.st (T' := T2) (g' := (mkF m 33 #[.val (.ref a), .val (.int y), .val (.int rr), .unset, .unset] [])) (fun t_ k_ => XS.icmpYes X2.here hx rfl (pc0 := 20) (pc' := 33) rfl (hb hby d3_20) rfl (teq hc20).1 (by decide) (by decide) k_) ?_
          refine Go.st (T' := T2) (g' := (mkF m 34 #[.val (.ref a), .val (.int y), .val (.int rr), .unset, .unset] [(.int y)])) (fun t_ k_ => XS.iloadN X2.here hx rfl (hb hby d3_33) rfl k_) ?_
          refine Go.st (T' := T2) (g' := (mkF m 35 #[.val (.ref a), .val (.int y), .val (.int rr), .val (.int y), .unset] [])) (fun t_ k_ => XS.istoreN X2.here hx rfl (hb hby d3_34) rfl (l' := #[.val (.ref a), .val (.int y), .val (.int rr), .val (.int y), .unset]) rfl k_) ?_
          have J35 : ∀ (k_J35 : Nat) (nd : Int32) (pb : Nat → Int32) (s4 : Slot) (T_J35 : State) (h_J35 : Heap), (d nd.toNatClampNeg) = k_J35 → Stn p l e ({ frames := 0, cells := 0, slots := 0, locals := 0 } : Room) s m #[(.ref a), (.int y)] below meth c n0 T_J35 h_J35 0 0 → n0 ≤ h_J35.size → Keep h0 h_J35 [pA] → Exa Z h_J35 a "com/example/cellsight/cellsight/analysis/UnionFind" → Fld Z h_J35 a "com/example/cellsight/cellsight/analysis/UnionFind" "parent" "[I" (.ref pA) → Exa Z h_J35 pA "[I" → n0 ≤ pA → Ary Z h_J35 pA .int n (fun i => .int (pb i)) → (own_Sd n pb rt d) → (¬ nd < 0) → (nd.toNatClampNeg < n) → (rt nd.toNatClampNeg = rr.toNatClampNeg) → (pb rr.toNatClampNeg = rr) → (s4 = .unset ∨ ∃ w, s4 = .val (.int w)) → Go p e below (PostW s n0 (0 : Nat) (0 : Nat) (Q3 Z n0 h0 a y pA n par rt)) T_J35 (mkF m 35 #[.val (.ref a), .val (.int y), .val (.int rr), .val (.int nd), s4] []) := by
            intro k_J35
            induction k_J35 using Nat.strongRecOn with
            | _ k_J35 ih_J35 =>
              intro nd pb s4 T_J35 h_J35 hk_J35 X_J35 sz_J35 K_J35 g0_J35 g1_J35 g2_J35 g3_J35 g4_J35 hdb k2 k3 k4 k5 ht
              rcases ht with rfl | ⟨w4, rfl⟩
              · skip
                refine Go.st (T' := T_J35) (g' := (mkF m 36 #[.val (.ref a), .val (.int y), .val (.int rr), .val (.int nd), .unset] [(.ref a)])) (fun t_ k_ => XS.aloadN X_J35.here hx rfl (hb hby d3_35) rfl rfl k_) ?_
                refine goGet X_J35 hx hZ hown (host := "") (Or.inl (hw _ (List.mem_of_getElem? (i := 11) rfl))) Via.refl g1_J35 (hb hby d3_36) fun T3 X3 => ?_
                show Go p e below _ T3 (mkF m 39 #[.val (.ref a), .val (.int y), .val (.int rr), .val (.int nd), .unset] [(.ref pA)])
                refine Go.st (T' := T3) (g' := (mkF m 40 #[.val (.ref a), .val (.int y), .val (.int rr), .val (.int nd), .unset] [(.int nd), (.ref pA)])) (fun t_ k_ => XS.iloadN X3.here hx rfl (hb hby d3_39) rfl k_) ?_
                refine goLdI X3 hx hZ (f := (fun i => (pb i))) g4_J35 (j := nd) (own_inb k2 k3) (hb hby d3_40) ?_
                show Go p e below _ T3 (mkF m 41 #[.val (.ref a), .val (.int y), .val (.int rr), .val (.int nd), .unset] [(.int (pb (nd).toNatClampNeg))])
                refine Go.st (T' := T3) (g' := (mkF m 42 #[.val (.ref a), .val (.int y), .val (.int rr), .val (.int nd), .unset] [(.int rr), (.int (pb (nd).toNatClampNeg))])) (fun t_ k_ => XS.iloadN X3.here hx rfl (hb hby d3_41) rfl k_) ?_
                by_cases hc42 : (pb (nd).toNatClampNeg) = rr
                · skip
                  refine Go.st (T' := T3) (g' := (mkF m 66 #[.val (.ref a), .val (.int y), .val (.int rr), .val (.int nd), .unset] [])) (fun t_ k_ => XS.icmpYes X3.here hx rfl (pc0 := 42) (pc' := 66) rfl (hb hby d3_42) rfl (teq hc42).1 (by decide) (by decide) k_) ?_
                  refine Go.st (T' := T3) (g' := (mkF m 67 #[.val (.ref a), .val (.int y), .val (.int rr), .val (.int nd), .unset] [(.int rr)])) (fun t_ k_ => XS.iloadN X3.here hx rfl (hb hby d3_66) rfl k_) ?_
                  refine goRetI X3 hx hlk hret (hb hby d3_67) (by decide) (by decide) ?_
                  refine ⟨rr, pb, rfl, K_J35, g4_J35, ?_, ?_⟩
                  · exact ⟨hge, d, hdb⟩
                  · exact ⟨h2, by rw [← h4]; exact ((hd _ h3).2.2.2.1 (by rw [hc20])).symm⟩
                · skip
                  refine Go.st (T' := T3) (g' := (mkF m 45 #[.val (.ref a), .val (.int y), .val (.int rr), .val (.int nd), .unset] [])) (fun t_ k_ => XS.icmpNo X3.here hx rfl (hb hby d3_42) rfl (feq hc42).1 k_) ?_
                  refine Go.st (T' := T3) (g' := (mkF m 46 #[.val (.ref a), .val (.int y), .val (.int rr), .val (.int nd), .unset] [(.ref a)])) (fun t_ k_ => XS.aloadN X3.here hx rfl (hb hby d3_45) rfl rfl k_) ?_
                  refine goGet X3 hx hZ hown (host := "") (Or.inl (hw _ (List.mem_of_getElem? (i := 11) rfl))) Via.refl g1_J35 (hb hby d3_46) fun T4 X4 => ?_
                  show Go p e below _ T4 (mkF m 49 #[.val (.ref a), .val (.int y), .val (.int rr), .val (.int nd), .unset] [(.ref pA)])
                  refine Go.st (T' := T4) (g' := (mkF m 50 #[.val (.ref a), .val (.int y), .val (.int rr), .val (.int nd), .unset] [(.int nd), (.ref pA)])) (fun t_ k_ => XS.iloadN X4.here hx rfl (hb hby d3_49) rfl k_) ?_
                  refine goLdI X4 hx hZ (f := (fun i => (pb i))) g4_J35 (j := nd) (own_inb k2 k3) (hb hby d3_50) ?_
                  show Go p e below _ T4 (mkF m 51 #[.val (.ref a), .val (.int y), .val (.int rr), .val (.int nd), .unset] [(.int (pb (nd).toNatClampNeg))])
                  refine Go.st (T' := T4) (g' := (mkF m 53 #[.val (.ref a), .val (.int y), .val (.int rr), .val (.int nd), .val (.int (pb (nd).toNatClampNeg))] [])) (fun t_ k_ => XS.istore X4.here hx rfl (hb hby d3_51) rfl (l' := #[.val (.ref a), .val (.int y), .val (.int rr), .val (.int nd), .val (.int (pb (nd).toNatClampNeg))]) rfl k_) ?_
                  refine Go.st (T' := T4) (g' := (mkF m 54 #[.val (.ref a), .val (.int y), .val (.int rr), .val (.int nd), .val (.int (pb (nd).toNatClampNeg))] [(.ref a)])) (fun t_ k_ => XS.aloadN X4.here hx rfl (hb hby d3_53) rfl rfl k_) ?_
                  refine goGet X4 hx hZ hown (host := "") (Or.inl (hw _ (List.mem_of_getElem? (i := 11) rfl))) Via.refl g1_J35 (hb hby d3_54) fun T5 X5 => ?_
                  show Go p e below _ T5 (mkF m 57 #[.val (.ref a), .val (.int y), .val (.int rr), .val (.int nd), .val (.int (pb (nd).toNatClampNeg))] [(.ref pA)])
                  refine Go.st (T' := T5) (g' := (mkF m 58 #[.val (.ref a), .val (.int y), .val (.int rr), .val (.int nd), .val (.int (pb (nd).toNatClampNeg))] [(.int nd), (.ref pA)])) (fun t_ k_ => XS.iloadN X5.here hx rfl (hb hby d3_57) rfl k_) ?_
                  refine Go.st (T' := T5) (g' := (mkF m 59 #[.val (.ref a), .val (.int y), .val (.int rr), .val (.int nd), .val (.int (pb (nd).toNatClampNeg))] [(.int rr), (.int nd), (.ref pA)])) (fun t_ k_ => XS.iloadN X5.here hx rfl (hb hby d3_58) rfl k_) ?_
                  refine goStI X5 hx hZ (f := (fun i => (pb i))) g4_J35 (j := nd) (own_inb k2 k3) g3_J35 (hb hby d3_59) fun T6 h6 X6 W6 A6 => ?_
                  have f6_1 : Exa Z h6 a "com/example/cellsight/cellsight/analysis/UnionFind" := g0_J35.wr W6
                  have f6_2 : Fld Z h6 a "com/example/cellsight/cellsight/analysis/UnionFind" "parent" "[I" (.ref pA) := g1_J35.other W6 (Or.inl (ne_exa g0_J35 g2_J35 (by decide)))
                  have f6_3 : Exa Z h6 pA "[I" := g2_J35.wr W6
                  have sz6 : n0 ≤ h6.size := Nat.le_trans sz_J35 (Keep.of_wr W6).1
                  have K6 : Keep h0 h6 [pA] := K_J35.wr W6 (Or.inl (List.mem_of_getElem? (i := 0) rfl))
                  show Go p e below _ T6 (mkF m 60 #[.val (.ref a), .val (.int y), .val (.int rr), .val (.int nd), .val (.int (pb (nd).toNatClampNeg))] [])
                  refine Go.st (T' := T6) (g' := (mkF m 62 #[.val (.ref a), .val (.int y), .val (.int rr), .val (.int nd), .val (.int (pb (nd).toNatClampNeg))] [(.int (pb (nd).toNatClampNeg))])) (fun t_ k_ => XS.iload X6.here hx rfl (hb hby d3_60) rfl k_) ?_
                  refine Go.st (T' := T6) (g' := (mkF m 63 #[.val (.ref a), .val (.int y), .val (.int rr), .val (.int (pb (nd).toNatClampNeg)), .val (.int (pb (nd).toNatClampNeg))] [])) (fun t_ k_ => XS.istoreN X6.here hx rfl (hb hby d3_62) rfl (l' := #[.val (.ref a), .val (.int y), .val (.int rr), .val (.int (pb (nd).toNatClampNeg)), .val (.int (pb (nd).toNatClampNeg))]) rfl k_) ?_
                  refine Go.st (T' := T6) (g' := (mkF m 35 #[.val (.ref a), .val (.int y), .val (.int rr), .val (.int (pb (nd).toNatClampNeg)), .val (.int (pb (nd).toNatClampNeg))] [])) (fun t_ k_ => XS.goto X6.here hx rfl (pc0 := 63) (pc' := 35) rfl (hb hby d3_63) (by decide) (by decide) k_) ?_
                  exact ih_J35 _ (by rw [← hk_J35]; exact (hdb _ k3).2.2.2.2.1 (fun z => hc42 (by have q := (hdb _ k3).2.2.2.1 z; rw [k4] at q; exact own_inj (hdb _ k3).1 h2 (by rw [z, q])))) (pb (nd).toNatClampNeg) (fun i => (if i = (nd).toNatClampNeg then rr else (fun i => (pb i)) i)) (.val (.int (pb (nd).toNatClampNeg))) T6 h6 rfl (X6.mono (by decide) (by decide)) sz6 K6 f6_1 f6_2 f6_3 g3_J35 A6 (own_cmp hdb k3 h2 h3 k4 k5) ((hdb _ k3).1) ((hdb _ k3).2.1) (by rw [(hdb _ k3).2.2.1]; exact k4) (by by_cases z : rr.toNatClampNeg = nd.toNatClampNeg <;> simp [z]; first | rfl | (rw [← z]; exact k5) | exact k5) (Or.inr ⟨_, rfl⟩)
              · skip
                refine Go.st (T' := T_J35) (g' := (mkF m 36 #[.val (.ref a), .val (.int y), .val (.int rr), .val (.int nd), .val (.int w4)] [(.ref a)])) (fun t_ k_ => XS.aloadN X_J35.here hx rfl (hb hby d3_35) rfl rfl k_) ?_
                refine goGet X_J35 hx hZ hown (host := "") (Or.inl (hw _ (List.mem_of_getElem? (i := 11) rfl))) Via.refl g1_J35 (hb hby d3_36) fun T7 X7 => ?_
                show Go p e below _ T7 (mkF m 39 #[.val (.ref a), .val (.int y), .val (.int rr), .val (.int nd), .val (.int w4)] [(.ref pA)])
                refine Go.st (T' := T7) (g' := (mkF m 40 #[.val (.ref a), .val (.int y), .val (.int rr), .val (.int nd), .val (.int w4)] [(.int nd), (.ref pA)])) (fun t_ k_ => XS.iloadN X7.here hx rfl (hb hby d3_39) rfl k_) ?_
                refine goLdI X7 hx hZ (f := (fun i => (pb i))) g4_J35 (j := nd) (own_inb k2 k3) (hb hby d3_40) ?_
                show Go p e below _ T7 (mkF m 41 #[.val (.ref a), .val (.int y), .val (.int rr), .val (.int nd), .val (.int w4)] [(.int (pb (nd).toNatClampNeg))])
                refine Go.st (T' := T7) (g' := (mkF m 42 #[.val (.ref a), .val (.int y), .val (.int rr), .val (.int nd), .val (.int w4)] [(.int rr), (.int (pb (nd).toNatClampNeg))])) (fun t_ k_ => XS.iloadN X7.here hx rfl (hb hby d3_41) rfl k_) ?_
                by_cases hc42 : (pb (nd).toNatClampNeg) = rr
                · skip
                  refine Go.st (T' := T7) (g' := (mkF m 66 #[.val (.ref a), .val (.int y), .val (.int rr), .val (.int nd), .val (.int w4)] [])) (fun t_ k_ => XS.icmpYes X7.here hx rfl (pc0 := 42) (pc' := 66) rfl (hb hby d3_42) rfl (teq hc42).1 (by decide) (by decide) k_) ?_
                  refine Go.st (T' := T7) (g' := (mkF m 67 #[.val (.ref a), .val (.int y), .val (.int rr), .val (.int nd), .val (.int w4)] [(.int rr)])) (fun t_ k_ => XS.iloadN X7.here hx rfl (hb hby d3_66) rfl k_) ?_
                  refine goRetI X7 hx hlk hret (hb hby d3_67) (by decide) (by decide) ?_
                  refine ⟨rr, pb, rfl, K_J35, g4_J35, ?_, ?_⟩
                  · exact ⟨hge, d, hdb⟩
                  · exact ⟨h2, by rw [← h4]; exact ((hd _ h3).2.2.2.1 (by rw [hc20])).symm⟩
                · skip
                  refine Go.st (T' := T7) (g' := (mkF m 45 #[.val (.ref a), .val (.int y), .val (.int rr), .val (.int nd), .val (.int w4)] [])) (fun t_ k_ => XS.icmpNo X7.here hx rfl (hb hby d3_42) rfl (feq hc42).1 k_) ?_
                  refine Go.st (T' := T7) (g' := (mkF m 46 #[.val (.ref a), .val (.int y), .val (.int rr), .val (.int nd), .val (.int w4)] [(.ref a)])) (fun t_ k_ => XS.aloadN X7.here hx rfl (hb hby d3_45) rfl rfl k_) ?_
                  refine goGet X7 hx hZ hown (host := "") (Or.inl (hw _ (List.mem_of_getElem? (i := 11) rfl))) Via.refl g1_J35 (hb hby d3_46) fun T8 X8 => ?_
                  show Go p e below _ T8 (mkF m 49 #[.val (.ref a), .val (.int y), .val (.int rr), .val (.int nd), .val (.int w4)] [(.ref pA)])
                  refine Go.st (T' := T8) (g' := (mkF m 50 #[.val (.ref a), .val (.int y), .val (.int rr), .val (.int nd), .val (.int w4)] [(.int nd), (.ref pA)])) (fun t_ k_ => XS.iloadN X8.here hx rfl (hb hby d3_49) rfl k_) ?_
                  refine goLdI X8 hx hZ (f := (fun i => (pb i))) g4_J35 (j := nd) (own_inb k2 k3) (hb hby d3_50) ?_
                  show Go p e below _ T8 (mkF m 51 #[.val (.ref a), .val (.int y), .val (.int rr), .val (.int nd), .val (.int w4)] [(.int (pb (nd).toNatClampNeg))])
                  refine Go.st (T' := T8) (g' := (mkF m 53 #[.val (.ref a), .val (.int y), .val (.int rr), .val (.int nd), .val (.int (pb (nd).toNatClampNeg))] [])) (fun t_ k_ => XS.istore X8.here hx rfl (hb hby d3_51) rfl (l' := #[.val (.ref a), .val (.int y), .val (.int rr), .val (.int nd), .val (.int (pb (nd).toNatClampNeg))]) rfl k_) ?_
                  refine Go.st (T' := T8) (g' := (mkF m 54 #[.val (.ref a), .val (.int y), .val (.int rr), .val (.int nd), .val (.int (pb (nd).toNatClampNeg))] [(.ref a)])) (fun t_ k_ => XS.aloadN X8.here hx rfl (hb hby d3_53) rfl rfl k_) ?_
                  refine goGet X8 hx hZ hown (host := "") (Or.inl (hw _ (List.mem_of_getElem? (i := 11) rfl))) Via.refl g1_J35 (hb hby d3_54) fun T9 X9 => ?_
                  show Go p e below _ T9 (mkF m 57 #[.val (.ref a), .val (.int y), .val (.int rr), .val (.int nd), .val (.int (pb (nd).toNatClampNeg))] [(.ref pA)])
                  refine Go.st (T' := T9) (g' := (mkF m 58 #[.val (.ref a), .val (.int y), .val (.int rr), .val (.int nd), .val (.int (pb (nd).toNatClampNeg))] [(.int nd), (.ref pA)])) (fun t_ k_ => XS.iloadN X9.here hx rfl (hb hby d3_57) rfl k_) ?_
                  refine Go.st (T' := T9) (g' := (mkF m 59 #[.val (.ref a), .val (.int y), .val (.int rr), .val (.int nd), .val (.int (pb (nd).toNatClampNeg))] [(.int rr), (.int nd), (.ref pA)])) (fun t_ k_ => XS.iloadN X9.here hx rfl (hb hby d3_58) rfl k_) ?_
                  refine goStI X9 hx hZ (f := (fun i => (pb i))) g4_J35 (j := nd) (own_inb k2 k3) g3_J35 (hb hby d3_59) fun T10 h10 X10 W10 A10 => ?_
                  have f10_1 : Exa Z h10 a "com/example/cellsight/cellsight/analysis/UnionFind" := g0_J35.wr W10
                  have f10_2 : Fld Z h10 a "com/example/cellsight/cellsight/analysis/UnionFind" "parent" "[I" (.ref pA) := g1_J35.other W10 (Or.inl (ne_exa g0_J35 g2_J35 (by decide)))
                  have f10_3 : Exa Z h10 pA "[I" := g2_J35.wr W10
                  have sz10 : n0 ≤ h10.size := Nat.le_trans sz_J35 (Keep.of_wr W10).1
                  have K10 : Keep h0 h10 [pA] := K_J35.wr W10 (Or.inl (List.mem_of_getElem? (i := 0) rfl))
                  show Go p e below _ T10 (mkF m 60 #[.val (.ref a), .val (.int y), .val (.int rr), .val (.int nd), .val (.int (pb (nd).toNatClampNeg))] [])
                  refine Go.st (T' := T10) (g' := (mkF m 62 #[.val (.ref a), .val (.int y), .val (.int rr), .val (.int nd), .val (.int (pb (nd).toNatClampNeg))] [(.int (pb (nd).toNatClampNeg))])) (fun t_ k_ => XS.iload X10.here hx rfl (hb hby d3_60) rfl k_) ?_
                  refine Go.st (T' := T10) (g' := (mkF m 63 #[.val (.ref a), .val (.int y), .val (.int rr), .val (.int (pb (nd).toNatClampNeg)), .val (.int (pb (nd).toNatClampNeg))] [])) (fun t_ k_ => XS.istoreN X10.here hx rfl (hb hby d3_62) rfl (l' := #[.val (.ref a), .val (.int y), .val (.int rr), .val (.int (pb (nd).toNatClampNeg)), .val (.int (pb (nd).toNatClampNeg))]) rfl k_) ?_
                  refine Go.st (T' := T10) (g' := (mkF m 35 #[.val (.ref a), .val (.int y), .val (.int rr), .val (.int (pb (nd).toNatClampNeg)), .val (.int (pb (nd).toNatClampNeg))] [])) (fun t_ k_ => XS.goto X10.here hx rfl (pc0 := 63) (pc' := 35) rfl (hb hby d3_63) (by decide) (by decide) k_) ?_
                  exact ih_J35 _ (by rw [← hk_J35]; exact (hdb _ k3).2.2.2.2.1 (fun z => hc42 (by have q := (hdb _ k3).2.2.2.1 z; rw [k4] at q; exact own_inj (hdb _ k3).1 h2 (by rw [z, q])))) (pb (nd).toNatClampNeg) (fun i => (if i = (nd).toNatClampNeg then rr else (fun i => (pb i)) i)) (.val (.int (pb (nd).toNatClampNeg))) T10 h10 rfl (X10.mono (by decide) (by decide)) sz10 K10 f10_1 f10_2 f10_3 g3_J35 A10 (own_cmp hdb k3 h2 h3 k4 k5) ((hdb _ k3).1) ((hdb _ k3).2.1) (by rw [(hdb _ k3).2.2.1]; exact k4) (by by_cases z : rr.toNatClampNeg = nd.toNatClampNeg <;> simp [z]; first | rfl | (rw [← z]; exact k5) | exact k5) (Or.inr ⟨_, rfl⟩)
          exact J35 _ y par (.unset) T2 h_J13 rfl (X2.mono (by decide) (by decide)) sz_J13 K_J13 g0_J13 g1_J13 g2_J13 g3_J13 g4_J13 (hd) (hy) ((own_ltn (n := n) (by omega) hy hc6)) (by rw [← h4]; exact (hd _ h3).2.2.2.1 (by rw [hc20])) (hc20) (Or.inl rfl)
        · skip
          refine Go.st (T' := T2) (g' := (mkF m 23 #[.val (.ref a), .val (.int y), .val (.int rr), .unset, .unset] [])) (fun t_ k_ => XS.icmpNo X2.here hx rfl (hb hby d3_20) rfl (feq hc20).1 k_) ?_
          refine Go.st (T' := T2) (g' := (mkF m 24 #[.val (.ref a), .val (.int y), .val (.int rr), .unset, .unset] [(.ref a)])) (fun t_ k_ => XS.aloadN X2.here hx rfl (hb hby d3_23) rfl rfl k_) ?_
          refine goGet X2 hx hZ hown (host := "") (Or.inl (hw _ (List.mem_of_getElem? (i := 11) rfl))) Via.refl g1_J13 (hb hby d3_24) fun T11 X11 => ?_
          show Go p e below _ T11 (mkF m 27 #[.val (.ref a), .val (.int y), .val (.int rr), .unset, .unset] [(.ref pA)])
          refine Go.st (T' := T11) (g' := (mkF m 28 #[.val (.ref a), .val (.int y), .val (.int rr), .unset, .unset] [(.int rr), (.ref pA)])) (fun t_ k_ => XS.iloadN X11.here hx rfl (hb hby d3_27) rfl k_) ?_
          refine goLdI X11 hx hZ (f := (fun i => (par i))) g4_J13 (j := rr) (own_inb h2 h3) (hb hby d3_28) ?_
          show Go p e below _ T11 (mkF m 29 #[.val (.ref a), .val (.int y), .val (.int rr), .unset, .unset] [(.int (par (rr).toNatClampNeg))])
          refine Go.st (T' := T11) (g' := (mkF m 30 #[.val (.ref a), .val (.int y), .val (.int (par (rr).toNatClampNeg)), .unset, .unset] [])) (fun t_ k_ => XS.istoreN X11.here hx rfl (hb hby d3_29) rfl (l' := #[.val (.ref a), .val (.int y), .val (.int (par (rr).toNatClampNeg)), .unset, .unset]) rfl k_) ?_
          refine Go.st (T' := T11) (g' := (mkF m 13 #[.val (.ref a), .val (.int y), .val (.int (par (rr).toNatClampNeg)), .unset, .unset] [])) (fun t_ k_ => XS.goto X11.here hx rfl (pc0 := 30) (pc' := 13) rfl (hb hby d3_30) (by decide) (by decide) k_) ?_
          exact ih_J13 _ (by rw [← hk_J13]; exact (hd _ h3).2.2.2.2.1 (fun z => hc20 (own_inj (hd _ h3).1 h2 z))) (par (rr).toNatClampNeg) T11 h_J13 rfl (X11.mono (by decide) (by decide)) sz_J13 K_J13 g0_J13 g1_J13 g2_J13 g3_J13 g4_J13 ((hd _ h3).1) ((hd _ h3).2.1) (by rw [(hd _ h3).2.2.1]; exact h4)
    exact J13 _ y T1 h0 rfl (X1.mono (by decide) (by decide)) sz0 K0 g0 g1 g2 g4 g3 (hy) ((own_ltn (n := n) (by omega) hy hc6)) (rfl)
  · skip
    refine Go.st (T' := T1) (g' := (mkF m 9 #[.val (.ref a), .val (.int y), .unset, .unset, .unset] [])) (fun t_ k_ => XS.icmpNo X1.here hx rfl (hb hby d3_6) rfl (flt hc6).1 k_) ?_
    refine Go.st (T' := T1) (g' := (mkF m 10 #[.val (.ref a), .val (.int y), .unset, .unset, .unset] [(.int y)])) (fun t_ k_ => XS.iloadN X1.here hx rfl (hb hby d3_9) rfl k_) ?_
    refine goRetI X1 hx hlk hret (hb hby d3_10) (by decide) (by decide) ?_
    refine ⟨y, par, rfl, K0, g3, ?_, ?_⟩
    · exact ⟨hge, d, hd⟩
    · exact ⟨hy, (hge _ (own_gen (by omega) hy hc6)).symm⟩

theorem own_div2 {n : Nat} (hn : n ≤ 46) : ((n).toInt32 / (2 : Int32)).toInt = (n / 2 : Nat) := by
  have e : (n).toInt32.toInt = n := Int32.toInt_ofNat_small (by omega)
  rw [Jvm.Kit.i32_div (by rw [e]; first | (simp; done) | (simp; omega)), e]
  show (n : Int).tdiv 2 = _
  rw [Int.tdiv_eq_ediv_of_nonneg (by omega)]
  omega
/-- the new length -/
theorem own_newlen {n : Nat} {y r : Int32} (hn : n ≤ 46) (hy : ¬ y < 0 ∧ y.toNatClampNeg ≤ 31) (hc : ¬ y < (n).toInt32) (hr : (r = (y + (1 : Int32)) ∧ ¬ (y + (1 : Int32)) < ((n).toInt32 + ((n).toInt32 / (2 : Int32)))) ∨ (r = ((n).toInt32 + ((n).toInt32 / (2 : Int32))) ∧ (y + (1 : Int32)) < ((n).toInt32 + ((n).toInt32 / (2 : Int32))))) :
    (¬ r < 0 ∧ r.toNatClampNeg ≤ 46) ∧ n < r.toNatClampNeg ∧ y.toNatClampNeg < r.toNatClampNeg := by
  have e : (n).toInt32.toInt = n := Int32.toInt_ofNat_small (by omega)
  have e1 := nat_of hy.1
  have e2 : (y + (1 : Int32)).toInt = y.toInt + 1 := by rw [Jvm.Kit.i32_add (by simp only [Int32.reduceToInt]; omega) (by simp only [Int32.reduceToInt]; omega)]; rfl
  have e3 := own_div2 hn
  have hge := own_gen (n := n) (by omega) hy.1 hc
  have e4 : ((n).toInt32 + ((n).toInt32 / (2 : Int32))).toInt = n + (n / 2 : Nat) := by rw [Jvm.Kit.i32_add (by rw [e, e3]; omega) (by rw [e, e3]; omega), e, e3]
  have fin : ∀ w : Int32, 0 ≤ w.toInt → (¬ w < 0) ∧ (w.toNatClampNeg : Int) = w.toInt := fun w hw => by
    have h0 : ¬ w < 0 := by rw [Int32.lt_iff_toInt_lt]; simpa using hw
    have := nat_of h0
    exact ⟨h0, by omega⟩
  rw [Int32.lt_iff_toInt_lt, e2, e4] at hr
  rcases hr with ⟨rfl, z⟩ | ⟨rfl, z⟩
  · obtain ⟨q1, q2⟩ := fin _ (by omega : 0 ≤ (y + (1 : Int32)).toInt)
    exact ⟨⟨q1, by omega⟩, by omega, by omega⟩
  · obtain ⟨q1, q2⟩ := fin _ (by omega : 0 ≤ ((n).toInt32 + ((n).toInt32 / (2 : Int32))).toInt)
    exact ⟨⟨q1, by omega⟩, by omega, by omega⟩
def own_gi (n k i : Nat) (par pb : Nat → Int32) : Prop := n ≤ i ∧ i ≤ k ∧ ∀ v, v < i → pb v = (if v < n then par v else Int32.ofNat v)
theorem own_of {u : Int32} (h : ¬ u < 0) : u = Int32.ofNat u.toNatClampNeg := by
  have e := nat_of h
  have := u.toInt_lt
  apply Int32.toInt_inj.mp
  rw [Int32.toInt_ofNat_of_lt (by omega)]
  exact e
theorem own_gs {n k : Nat} {w : Int32} {par pb : Nat → Int32} (hk : k ≤ 46) (h0 : ¬ w < 0) (hw : w.toNatClampNeg < k) (h : own_gi n k w.toNatClampNeg par pb) : own_gi n k (w + (1 : Int32)).toNatClampNeg par (fun i => (if i = (w).toNatClampNeg then w else pb i)) := by
  obtain ⟨-, e⟩ := own_succ (n := k) (by omega) h0 hw
  refine ⟨by rw [e]; have := h.1; omega, by rw [e]; omega, fun v hv => ?_⟩
  rw [e] at hv
  show (if v = w.toNatClampNeg then w else pb v) = _
  by_cases q : v = w.toNatClampNeg
  · rw [if_pos q, if_neg (by have := h.1; omega), q]; exact own_of h0
  · rw [if_neg q]; exact h.2.2 v (by omega)

theorem d7_0 : decode prog_21_method_4_code 0 = .ok (.iload_n 1, 1) := by decide +kernel
theorem d7_1 : decode prog_21_method_4_code 1 = .ok (.aload_n 0, 1) := by decide +kernel
theorem d7_2 : decode prog_21_method_4_code 2 = .ok (.getfield 7, 3) := by decide +kernel
theorem d7_5 : decode prog_21_method_4_code 5 = .ok (.arraylength, 1) := by decide +kernel
theorem d7_6 : decode prog_21_method_4_code 6 = .ok (.if_icmp .ge 4, 3) := by decide +kernel
theorem d7_9 : decode prog_21_method_4_code 9 = .ok (.return_, 1) := by decide +kernel
theorem d7_10 : decode prog_21_method_4_code 10 = .ok (.aload_n 0, 1) := by decide +kernel
theorem d7_11 : decode prog_21_method_4_code 11 = .ok (.getfield 7, 3) := by decide +kernel
theorem d7_14 : decode prog_21_method_4_code 14 = .ok (.arraylength, 1) := by decide +kernel
theorem d7_15 : decode prog_21_method_4_code 15 = .ok (.istore_n 2, 1) := by decide +kernel
theorem d7_16 : decode prog_21_method_4_code 16 = .ok (.iload_n 1, 1) := by decide +kernel
theorem d7_17 : decode prog_21_method_4_code 17 = .ok (.iconst 1, 1) := by decide +kernel
theorem d7_18 : decode prog_21_method_4_code 18 = .ok (.iadd, 1) := by decide +kernel
theorem d7_19 : decode prog_21_method_4_code 19 = .ok (.iload_n 2, 1) := by decide +kernel
theorem d7_20 : decode prog_21_method_4_code 20 = .ok (.iload_n 2, 1) := by decide +kernel
theorem d7_21 : decode prog_21_method_4_code 21 = .ok (.iconst 2, 1) := by decide +kernel
theorem d7_22 : decode prog_21_method_4_code 22 = .ok (.idiv, 1) := by decide +kernel
theorem d7_23 : decode prog_21_method_4_code 23 = .ok (.iadd, 1) := by decide +kernel
theorem d7_24 : decode prog_21_method_4_code 24 = .ok (.invokestatic 16, 3) := by decide +kernel
theorem d7_27 : decode prog_21_method_4_code 27 = .ok (.istore_n 3, 1) := by decide +kernel
theorem d7_28 : decode prog_21_method_4_code 28 = .ok (.aload_n 0, 1) := by decide +kernel
theorem d7_29 : decode prog_21_method_4_code 29 = .ok (.aload_n 0, 1) := by decide +kernel
theorem d7_30 : decode prog_21_method_4_code 30 = .ok (.getfield 7, 3) := by decide +kernel
theorem d7_33 : decode prog_21_method_4_code 33 = .ok (.iload_n 3, 1) := by decide +kernel
theorem d7_34 : decode prog_21_method_4_code 34 = .ok (.invokestatic 26, 3) := by decide +kernel
theorem d7_37 : decode prog_21_method_4_code 37 = .ok (.putfield 7, 3) := by decide +kernel
theorem d7_40 : decode prog_21_method_4_code 40 = .ok (.aload_n 0, 1) := by decide +kernel
theorem d7_41 : decode prog_21_method_4_code 41 = .ok (.aload_n 0, 1) := by decide +kernel
theorem d7_42 : decode prog_21_method_4_code 42 = .ok (.getfield 13, 3) := by decide +kernel
theorem d7_45 : decode prog_21_method_4_code 45 = .ok (.iload_n 3, 1) := by decide +kernel
theorem d7_46 : decode prog_21_method_4_code 46 = .ok (.invokestatic 26, 3) := by decide +kernel
theorem d7_49 : decode prog_21_method_4_code 49 = .ok (.putfield 13, 3) := by decide +kernel
theorem d7_52 : decode prog_21_method_4_code 52 = .ok (.iload_n 2, 1) := by decide +kernel
theorem d7_53 : decode prog_21_method_4_code 53 = .ok (.istore 4, 2) := by decide +kernel
theorem d7_55 : decode prog_21_method_4_code 55 = .ok (.iload 4, 2) := by decide +kernel
theorem d7_57 : decode prog_21_method_4_code 57 = .ok (.iload_n 3, 1) := by decide +kernel
theorem d7_58 : decode prog_21_method_4_code 58 = .ok (.if_icmp .ge 18, 3) := by decide +kernel
theorem d7_61 : decode prog_21_method_4_code 61 = .ok (.aload_n 0, 1) := by decide +kernel
theorem d7_62 : decode prog_21_method_4_code 62 = .ok (.getfield 7, 3) := by decide +kernel
theorem d7_65 : decode prog_21_method_4_code 65 = .ok (.iload 4, 2) := by decide +kernel
theorem d7_67 : decode prog_21_method_4_code 67 = .ok (.iload 4, 2) := by decide +kernel
theorem d7_69 : decode prog_21_method_4_code 69 = .ok (.iastore, 1) := by decide +kernel
theorem d7_70 : decode prog_21_method_4_code 70 = .ok (.iinc 4 1, 3) := by decide +kernel
theorem d7_73 : decode prog_21_method_4_code 73 = .ok (.goto (-18), 3) := by decide +kernel
theorem d7_76 : decode prog_21_method_4_code 76 = .ok (.return_, 1) := by decide +kernel
theorem pn_7 : plainFor (⟨"com/example/cellsight/cellsight/analysis/UnionFind", "grow", "(I)V"⟩ : MethodName) = true := plainFor_of_name (by first | (simp [plainName, overriddenIn]; done) | decide +kernel)
theorem pd_d55b7dfa : parseMethodDescriptor "([II)[I" = some ⟨[(.array .int), .int], some (.array .int)⟩ := by decide +kernel
theorem ef_rm7 (m : MethodId) (x0 : Addr) (x1 : Int32) : entryFrame m #[(.ref x0), (.int x1)] 5 = mkF m 0 #[.val (.ref x0), .val (.int x1), .unset, .unset, .unset] [] := by first | (simp [entryFrame, mkF, argsToLocals, Value.category]; done) | rfl
def Q7 (Z : State) (n0 : Nat) (h0 : Heap) (a : Addr) (y : Int32) (pA : Addr) (kA : Addr) (n : Nat) (par : Nat → Int32) (rk : Nat → Int32) (v : Option Value) (h : Heap) : Prop := ∃ (pA' : Addr) (kA' : Addr) (n' : Nat) (par' : Nat → Int32) (rk' : Nat → Int32), v = none ∧ Keep h0 h [a] ∧ Exa Z h a "com/example/cellsight/cellsight/analysis/UnionFind" ∧ Fld Z h a "com/example/cellsight/cellsight/analysis/UnionFind" "parent" "[I" (.ref pA') ∧ Fld Z h a "com/example/cellsight/cellsight/analysis/UnionFind" "rank" "[I" (.ref kA') ∧ Exa Z h pA' "[I" ∧ Exa Z h kA' "[I" ∧ Ary Z h pA' .int n' (fun i => .int (par' i)) ∧ Ary Z h kA' .int n' (fun i => .int (rk' i)) ∧ n0 ≤ a ∧ n0 ≤ pA' ∧ n0 ≤ kA' ∧ pA' ≠ kA' ∧ (n' ≤ 46 ∧ y.toNatClampNeg < n' ∧ n ≤ n' ∧ ∀ v, v < n' → par' v = (if v < n then par v else Int32.ofNat v)) ∧ (pA' = pA ∨ h0.size ≤ pA') ∧ (kA' = kA ∨ h0.size ≤ kA')
set_option maxRecDepth 65536 in
set_option maxHeartbeats 40000000 in
theorem rm7 (l : Launch) (Z : State) (a0 : Array Value) (hw : ∀ d ∈ tables_1, d.before a0 Z = true) (ws : List Jvm.Cond) (n0 : Nat) (h0 : Heap) (a : Addr) (y : Int32) (pA : Addr) (kA : Addr) (n : Nat) (par : Nat → Int32) (rk : Nat → Int32) (sz0 : n0 ≤ h0.size) (g0 : Exa Z h0 a "com/example/cellsight/cellsight/analysis/UnionFind") (g1 : Fld Z h0 a "com/example/cellsight/cellsight/analysis/UnionFind" "parent" "[I" (.ref pA)) (g2 : Fld Z h0 a "com/example/cellsight/cellsight/analysis/UnionFind" "rank" "[I" (.ref kA)) (g3 : Exa Z h0 pA "[I") (g4 : Exa Z h0 kA "[I") (g5 : Ary Z h0 pA .int n (fun i => .int (par i))) (g6 : Ary Z h0 kA .int n (fun i => .int (rk i))) (g7 : n0 ≤ a) (g8 : n0 ≤ pA) (g9 : n0 ≤ kA) (g10 : pA ≠ kA) (hn : n ≤ 46) (hy : ¬ y < 0 ∧ y.toNatClampNeg ≤ 31) :
    Con l (⟨"com/example/cellsight/cellsight/analysis/UnionFind", "grow", "(I)V"⟩ : MethodName) prog_21_method_4_code 5 none ({ frames := 2, cells := 2, slots := 92, locals := 90 } : Room) ws Z n0 #[(.ref a), (.int y)] h0 (Q7 Z n0 h0 a y pA kA n par rk) := by
  refine Con.body pn_7 ?_
  intro p e s m below meth c s₁ hx hby hml hown hnm hret hlk hZ X0
  have hown : s.vm.findClass "com/example/cellsight/cellsight/analysis/UnionFind" = some m.cls := hown
  have hnm : meth.name = "grow" := hnm
  have K0 : Keep h0 h0 [a] := Keep.refl _ _
  rw [show entryFrame m #[(.ref a), (.int y)] 5 = mkF m 0 #[.val (.ref a), .val (.int y), .unset, .unset, .unset] [] from ef_rm7 m a y]
  show Go p e below (PostW s n0 (2 : Nat) (92 : Nat) (Q7 Z n0 h0 a y pA kA n par rk)) s₁ (mkF m 0 #[.val (.ref a), .val (.int y), .unset, .unset, .unset] [])
  refine Go.st (T' := s₁) (g' := (mkF m 1 #[.val (.ref a), .val (.int y), .unset, .unset, .unset] [(.int y)])) (fun t_ k_ => XS.iloadN X0.here hx rfl (hb hby d7_0) rfl k_) ?_
  refine Go.st (T' := s₁) (g' := (mkF m 2 #[.val (.ref a), .val (.int y), .unset, .unset, .unset] [(.ref a), (.int y)])) (fun t_ k_ => XS.aloadN X0.here hx rfl (hb hby d7_1) rfl rfl k_) ?_
  refine goGet X0 hx hZ hown (host := "") (Or.inl (hw _ (List.mem_of_getElem? (i := 11) rfl))) Via.refl g1 (hb hby d7_2) fun T1 X1 => ?_
  show Go p e below _ T1 (mkF m 5 #[.val (.ref a), .val (.int y), .unset, .unset, .unset] [(.ref pA), (.int y)])
  refine goLen X1 hx hZ g5 (hb hby d7_5) ?_
  show Go p e below _ T1 (mkF m 6 #[.val (.ref a), .val (.int y), .unset, .unset, .unset] [(.int (n).toInt32), (.int y)])
  by_cases hc6 : y < (n).toInt32
  · skip
    refine Go.st (T' := T1) (g' := (mkF m 9 #[.val (.ref a), .val (.int y), .unset, .unset, .unset] [])) (fun t_ k_ => XS.icmpNo X1.here hx rfl (hb hby d7_6) rfl (tlt hc6).2.1 k_) ?_
    refine goRetV X1 hx hlk hret (hb hby d7_9) (by decide) (by decide) ?_
    refine ⟨pA, kA, n, par, rk, rfl, K0, g0, g1, g2, g3, g4, g5, g6, g7, g8, g9, g10, ?_, ?_, ?_⟩
    · exact ⟨hn, own_ltn (by omega) hy.1 hc6, Nat.le_refl _, fun v hv => (if_pos hv).symm⟩
    · exact Or.inl rfl
    · exact Or.inl rfl
  · skip
    refine Go.st (T' := T1) (g' := (mkF m 10 #[.val (.ref a), .val (.int y), .unset, .unset, .unset] [])) (fun t_ k_ => XS.icmpYes X1.here hx rfl (pc0 := 6) (pc' := 10) rfl (hb hby d7_6) rfl (flt hc6).2.1 (by decide) (by decide) k_) ?_
    refine Go.st (T' := T1) (g' := (mkF m 11 #[.val (.ref a), .val (.int y), .unset, .unset, .unset] [(.ref a)])) (fun t_ k_ => XS.aloadN X1.here hx rfl (hb hby d7_10) rfl rfl k_) ?_
    refine goGet X1 hx hZ hown (host := "") (Or.inl (hw _ (List.mem_of_getElem? (i := 11) rfl))) Via.refl g1 (hb hby d7_11) fun T2 X2 => ?_
    show Go p e below _ T2 (mkF m 14 #[.val (.ref a), .val (.int y), .unset, .unset, .unset] [(.ref pA)])
    refine goLen X2 hx hZ g5 (hb hby d7_14) ?_
    show Go p e below _ T2 (mkF m 15 #[.val (.ref a), .val (.int y), .unset, .unset, .unset] [(.int (n).toInt32)])
    refine Go.st (T' := T2) (g' := (mkF m 16 #[.val (.ref a), .val (.int y), .val (.int (n).toInt32), .unset, .unset] [])) (fun t_ k_ => XS.istoreN X2.here hx rfl (hb hby d7_15) rfl (l' := #[.val (.ref a), .val (.int y), .val (.int (n).toInt32), .unset, .unset]) rfl k_) ?_
    refine Go.st (T' := T2) (g' := (mkF m 17 #[.val (.ref a), .val (.int y), .val (.int (n).toInt32), .unset, .unset] [(.int y)])) (fun t_ k_ => XS.iloadN X2.here hx rfl (hb hby d7_16) rfl k_) ?_
    refine Go.st (T' := T2) (g' := (mkF m 18 #[.val (.ref a), .val (.int y), .val (.int (n).toInt32), .unset, .unset] [(.int (1 : Int32)), (.int y)])) (fun t_ k_ => XS.iconst X2.here hx rfl (hb hby d7_17) k_) ?_
    refine Go.st (T' := T2) (g' := (mkF m 19 #[.val (.ref a), .val (.int y), .val (.int (n).toInt32), .unset, .unset] [(.int (y + (1 : Int32)))])) (fun t_ k_ => XS.iadd X2.here hx rfl (hb hby d7_18) rfl k_) ?_
    refine Go.st (T' := T2) (g' := (mkF m 20 #[.val (.ref a), .val (.int y), .val (.int (n).toInt32), .unset, .unset] [(.int (n).toInt32), (.int (y + (1 : Int32)))])) (fun t_ k_ => XS.iloadN X2.here hx rfl (hb hby d7_19) rfl k_) ?_
    refine Go.st (T' := T2) (g' := (mkF m 21 #[.val (.ref a), .val (.int y), .val (.int (n).toInt32), .unset, .unset] [(.int (n).toInt32), (.int (n).toInt32), (.int (y + (1 : Int32)))])) (fun t_ k_ => XS.iloadN X2.here hx rfl (hb hby d7_20) rfl k_) ?_
    refine Go.st (T' := T2) (g' := (mkF m 22 #[.val (.ref a), .val (.int y), .val (.int (n).toInt32), .unset, .unset] [(.int (2 : Int32)), (.int (n).toInt32), (.int (n).toInt32), (.int (y + (1 : Int32)))])) (fun t_ k_ => XS.iconst X2.here hx rfl (hb hby d7_21) k_) ?_
    refine Go.st (T' := T2) (g' := (mkF m 23 #[.val (.ref a), .val (.int y), .val (.int (n).toInt32), .unset, .unset] [(.int ((n).toInt32 / (2 : Int32))), (.int (n).toInt32), (.int (y + (1 : Int32)))])) (fun t_ k_ => XS.idiv X2.here hx rfl (hb hby d7_22) rfl (by decide) k_) ?_
    refine Go.st (T' := T2) (g' := (mkF m 24 #[.val (.ref a), .val (.int y), .val (.int (n).toInt32), .unset, .unset] [(.int ((n).toInt32 + ((n).toInt32 / (2 : Int32)))), (.int (y + (1 : Int32)))])) (fun t_ k_ => XS.iadd X2.here hx rfl (hb hby d7_23) rfl k_) ?_
    refine goStatic X2 hx hZ (y := (⟨"java/lang/Math", "max", "(II)I"⟩ : MethodName)) hown (hw _ (List.mem_of_getElem? (i := 29) rfl)) (hw _ (List.mem_of_getElem? (i := 30) rfl)) (hw _ (List.mem_of_getElem? (i := 31) rfl)) (hw _ (List.mem_of_getElem? (i := 32) rfl)) (by decide) (rm6 l Z a0 hw [] n0 h0 (y + (1 : Int32)) ((n).toInt32 + ((n).toInt32 / (2 : Int32))) sz0) 0 (by decide) (by decide) (by rw [hml]; rfl) [(.int (y + (1 : Int32))), (.int ((n).toInt32 + ((n).toInt32 / (2 : Int32))))] [] (lenOf pd_e58254ff rfl) rfl rfl rfl (hb hby d7_24) (by decide) (by decide) fun v3 T3 h3 X3 hq3 => ?_
    obtain ⟨nl, rfl, eh3, tmx⟩ := hq3
    rw [eh3] at X3
    obtain ⟨hk, hnk, hyk⟩ := own_newlen hn hy hc6 tmx
    show Go p e below _ T3 (mkF m 27 #[.val (.ref a), .val (.int y), .val (.int (n).toInt32), .unset, .unset] [(.int nl)])
    refine Go.st (T' := T3) (g' := (mkF m 28 #[.val (.ref a), .val (.int y), .val (.int (n).toInt32), .val (.int nl), .unset] [])) (fun t_ k_ => XS.istoreN X3.here hx rfl (hb hby d7_27) rfl (l' := #[.val (.ref a), .val (.int y), .val (.int (n).toInt32), .val (.int nl), .unset]) rfl k_) ?_
    refine Go.st (T' := T3) (g' := (mkF m 29 #[.val (.ref a), .val (.int y), .val (.int (n).toInt32), .val (.int nl), .unset] [(.ref a)])) (fun t_ k_ => XS.aloadN X3.here hx rfl (hb hby d7_28) rfl rfl k_) ?_
    refine Go.st (T' := T3) (g' := (mkF m 30 #[.val (.ref a), .val (.int y), .val (.int (n).toInt32), .val (.int nl), .unset] [(.ref a), (.ref a)])) (fun t_ k_ => XS.aloadN X3.here hx rfl (hb hby d7_29) rfl rfl k_) ?_
    refine goGet X3 hx hZ hown (host := "") (Or.inl (hw _ (List.mem_of_getElem? (i := 11) rfl))) Via.refl g1 (hb hby d7_30) fun T4 X4 => ?_
    show Go p e below _ T4 (mkF m 33 #[.val (.ref a), .val (.int y), .val (.int (n).toInt32), .val (.int nl), .unset] [(.ref pA), (.ref a)])
    refine Go.st (T' := T4) (g' := (mkF m 34 #[.val (.ref a), .val (.int y), .val (.int (n).toInt32), .val (.int nl), .unset] [(.int nl), (.ref pA), (.ref a)])) (fun t_ k_ => XS.iloadN X4.here hx rfl (hb hby d7_33) rfl k_) ?_
    refine goStatic X4 hx hZ (y := (⟨"java/util/Arrays", "copyOf", "([II)[I"⟩ : MethodName)) hown (hw _ (List.mem_of_getElem? (i := 37) rfl)) (hw _ (List.mem_of_getElem? (i := 38) rfl)) (hw _ (List.mem_of_getElem? (i := 39) rfl)) (hw _ (List.mem_of_getElem? (i := 40) rfl)) (by decide) (rm8 l Z a0 hw [] n0 h0 pA nl n par sz0 g3 g5 (hk) (hnk)) 1 (by decide) (by decide) (by rw [hml]; rfl) [(.ref pA), (.int nl)] [(.ref a)] (lenOf pd_d55b7dfa rfl) rfl rfl rfl (hb hby d7_34) (by decide) (by decide) fun v5 T5 h5 X5 hq5 => ?_
    obtain ⟨qA, rfl, K5c, p5_0, p5_1, p5_2⟩ := hq5
    have ne5_a_qA : a ≠ qA := Nat.ne_of_lt (Nat.lt_of_lt_of_le g0.lt p5_0)
    have ne5_pA_qA : pA ≠ qA := Nat.ne_of_lt (Nat.lt_of_lt_of_le g3.lt p5_0)
    have ne5_kA_qA : kA ≠ qA := Nat.ne_of_lt (Nat.lt_of_lt_of_le g4.lt p5_0)
    have ge5_qA : n0 ≤ qA := Nat.le_trans sz0 p5_0
    have fr5_qA : h0.size ≤ qA := Nat.le_trans K0.1 p5_0
    have f5_0 : Exa Z h5 a "com/example/cellsight/cellsight/analysis/UnionFind" := g0.keep K5c
    have f5_1 : Fld Z h5 a "com/example/cellsight/cellsight/analysis/UnionFind" "parent" "[I" (.ref pA) := g1.keep K5c nin0
    have f5_2 : Fld Z h5 a "com/example/cellsight/cellsight/analysis/UnionFind" "rank" "[I" (.ref kA) := g2.keep K5c nin0
    have f5_3 : Exa Z h5 pA "[I" := g3.keep K5c
    have f5_4 : Exa Z h5 kA "[I" := g4.keep K5c
    have f5_5 : Ary Z h5 pA .int n (fun i => .int (par i)) := g5.keep K5c nin0
    have f5_6 : Ary Z h5 kA .int n (fun i => .int (rk i)) := g6.keep K5c nin0
    have sz5 : n0 ≤ h5.size := Nat.le_trans sz0 K5c.1
    have K5 : Keep h0 h5 [a] := K0.trans K5c all0
    show Go p e below _ T5 (mkF m 37 #[.val (.ref a), .val (.int y), .val (.int (n).toInt32), .val (.int nl), .unset] [(.ref qA), (.ref a)])
    refine goPut X5 hx hZ hown (host := "") (Or.inl (hw _ (List.mem_of_getElem? (i := 11) rfl))) Via.refl f5_1 f5_0 (Or.inl (hw _ (List.mem_of_getElem? (i := 12) rfl))) (hw _ (List.mem_of_getElem? (i := 2) rfl)) (ty := (.array .int)) (by decide) rfl rfl g7 (hb hby d7_37) fun T6 h6 X6 W6 => ?_
    have Fw6 := f5_1.same W6
    have f6_0 : Exa Z h6 a "com/example/cellsight/cellsight/analysis/UnionFind" := f5_0.wr W6
    have f6_1 : Fld Z h6 a "com/example/cellsight/cellsight/analysis/UnionFind" "rank" "[I" (.ref kA) := f5_2.other W6 (Or.inr (slot_ne (Or.inl (hw _ (List.mem_of_getElem? (i := 14) rfl))) (Or.inl (hw _ (List.mem_of_getElem? (i := 12) rfl))) (by decide) (t := (.array .int)) (t' := (.array .int)) (by decide) (by decide)))
    have f6_2 : Exa Z h6 pA "[I" := f5_3.wr W6
    have f6_3 : Exa Z h6 kA "[I" := f5_4.wr W6
    have f6_4 : Ary Z h6 pA .int n (fun i => .int (par i)) := f5_5.other W6 (ne_exa f5_3 f5_0 (by decide))
    have f6_5 : Ary Z h6 kA .int n (fun i => .int (rk i)) := f5_6.other W6 (ne_exa f5_4 f5_0 (by decide))
    have f6_15 : Exa Z h6 qA "[I" := p5_1.wr W6
    have f6_16 : Ary Z h6 qA .int nl.toNatClampNeg (fun i => .int (own_cpf n par i)) := p5_2.other W6 ne5_a_qA.symm
    have sz6 : n0 ≤ h6.size := Nat.le_trans sz5 (Keep.of_wr W6).1
    have K6 : Keep h0 h6 [a] := K5.wr W6 (Or.inl (List.mem_of_getElem? (i := 0) rfl))
    show Go p e below _ T6 (mkF m 40 #[.val (.ref a), .val (.int y), .val (.int (n).toInt32), .val (.int nl), .unset] [])
    refine Go.st (T' := T6) (g' := (mkF m 41 #[.val (.ref a), .val (.int y), .val (.int (n).toInt32), .val (.int nl), .unset] [(.ref a)])) (fun t_ k_ => XS.aloadN X6.here hx rfl (hb hby d7_40) rfl rfl k_) ?_
    refine Go.st (T' := T6) (g' := (mkF m 42 #[.val (.ref a), .val (.int y), .val (.int (n).toInt32), .val (.int nl), .unset] [(.ref a), (.ref a)])) (fun t_ k_ => XS.aloadN X6.here hx rfl (hb hby d7_41) rfl rfl k_) ?_
    refine goGet X6 hx hZ hown (host := "") (Or.inl (hw _ (List.mem_of_getElem? (i := 13) rfl))) Via.refl f6_1 (hb hby d7_42) fun T7 X7 => ?_
    show Go p e below _ T7 (mkF m 45 #[.val (.ref a), .val (.int y), .val (.int (n).toInt32), .val (.int nl), .unset] [(.ref kA), (.ref a)])
    refine Go.st (T' := T7) (g' := (mkF m 46 #[.val (.ref a), .val (.int y), .val (.int (n).toInt32), .val (.int nl), .unset] [(.int nl), (.ref kA), (.ref a)])) (fun t_ k_ => XS.iloadN X7.here hx rfl (hb hby d7_45) rfl k_) ?_
    refine goStatic X7 hx hZ (y := (⟨"java/util/Arrays", "copyOf", "([II)[I"⟩ : MethodName)) hown (hw _ (List.mem_of_getElem? (i := 37) rfl)) (hw _ (List.mem_of_getElem? (i := 38) rfl)) (hw _ (List.mem_of_getElem? (i := 39) rfl)) (hw _ (List.mem_of_getElem? (i := 40) rfl)) (by decide) (rm8 l Z a0 hw [] n0 h6 kA nl n rk sz6 f6_3 f6_5 (hk) (hnk)) 1 (by decide) (by decide) (by rw [hml]; rfl) [(.ref kA), (.int nl)] [(.ref a)] (lenOf pd_d55b7dfa rfl) rfl rfl rfl (hb hby d7_46) (by decide) (by decide) fun v8 T8 h8 X8 hq8 => ?_
    obtain ⟨qK, rfl, K8c, p8_0, p8_1, p8_2⟩ := hq8
    have ne8_a_qK : a ≠ qK := Nat.ne_of_lt (Nat.lt_of_lt_of_le f6_0.lt p8_0)
    have ne8_pA_qK : pA ≠ qK := Nat.ne_of_lt (Nat.lt_of_lt_of_le f6_2.lt p8_0)
    have ne8_kA_qK : kA ≠ qK := Nat.ne_of_lt (Nat.lt_of_lt_of_le f6_3.lt p8_0)
    have ne8_qA_qK : qA ≠ qK := Nat.ne_of_lt (Nat.lt_of_lt_of_le f6_15.lt p8_0)
    have ge8_qK : n0 ≤ qK := Nat.le_trans sz6 p8_0
    have fr8_qK : h0.size ≤ qK := Nat.le_trans K6.1 p8_0
    have f8_0 : Exa Z h8 a "com/example/cellsight/cellsight/analysis/UnionFind" := f6_0.keep K8c
    have f8_1 : Fld Z h8 a "com/example/cellsight/cellsight/analysis/UnionFind" "rank" "[I" (.ref kA) := f6_1.keep K8c nin0
    have f8_2 : Exa Z h8 pA "[I" := f6_2.keep K8c
    have f8_3 : Exa Z h8 kA "[I" := f6_3.keep K8c
    have f8_4 : Ary Z h8 pA .int n (fun i => .int (par i)) := f6_4.keep K8c nin0
    have f8_5 : Ary Z h8 kA .int n (fun i => .int (rk i)) := f6_5.keep K8c nin0
    have f8_15 : Exa Z h8 qA "[I" := f6_15.keep K8c
    have f8_16 : Ary Z h8 qA .int nl.toNatClampNeg (fun i => .int (own_cpf n par i)) := f6_16.keep K8c nin0
    have f8_17 : Fld Z h8 a "com/example/cellsight/cellsight/analysis/UnionFind" "parent" "[I" (.ref qA) := Fw6.keep K8c nin0
    have sz8 : n0 ≤ h8.size := Nat.le_trans sz6 K8c.1
    have K8 : Keep h0 h8 [a] := K6.trans K8c all0
    show Go p e below _ T8 (mkF m 49 #[.val (.ref a), .val (.int y), .val (.int (n).toInt32), .val (.int nl), .unset] [(.ref qK), (.ref a)])
    refine goPut X8 hx hZ hown (host := "") (Or.inl (hw _ (List.mem_of_getElem? (i := 13) rfl))) Via.refl f8_1 f8_0 (Or.inl (hw _ (List.mem_of_getElem? (i := 14) rfl))) (hw _ (List.mem_of_getElem? (i := 2) rfl)) (ty := (.array .int)) (by decide) rfl rfl g7 (hb hby d7_49) fun T9 h9 X9 W9 => ?_
    have Fw9 := f8_1.same W9
    have f9_0 : Exa Z h9 a "com/example/cellsight/cellsight/analysis/UnionFind" := f8_0.wr W9
    have f9_1 : Exa Z h9 pA "[I" := f8_2.wr W9
    have f9_2 : Exa Z h9 kA "[I" := f8_3.wr W9
    have f9_3 : Ary Z h9 pA .int n (fun i => .int (par i)) := f8_4.other W9 (ne_exa f8_2 f8_0 (by decide))
    have f9_4 : Ary Z h9 kA .int n (fun i => .int (rk i)) := f8_5.other W9 (ne_exa f8_3 f8_0 (by decide))
    have f9_14 : Exa Z h9 qA "[I" := f8_15.wr W9
    have f9_15 : Ary Z h9 qA .int nl.toNatClampNeg (fun i => .int (own_cpf n par i)) := f8_16.other W9 ne5_a_qA.symm
    have f9_16 : Fld Z h9 a "com/example/cellsight/cellsight/analysis/UnionFind" "parent" "[I" (.ref qA) := f8_17.other W9 (Or.inr (slot_ne (Or.inl (hw _ (List.mem_of_getElem? (i := 12) rfl))) (Or.inl (hw _ (List.mem_of_getElem? (i := 14) rfl))) (by decide) (t := (.array .int)) (t' := (.array .int)) (by decide) (by decide)))
    have f9_23 : Exa Z h9 qK "[I" := p8_1.wr W9
    have f9_24 : Ary Z h9 qK .int nl.toNatClampNeg (fun i => .int (own_cpf n rk i)) := p8_2.other W9 ne8_a_qK.symm
    have sz9 : n0 ≤ h9.size := Nat.le_trans sz8 (Keep.of_wr W9).1
    have K9 : Keep h0 h9 [a] := K8.wr W9 (Or.inl (List.mem_of_getElem? (i := 0) rfl))
    show Go p e below _ T9 (mkF m 52 #[.val (.ref a), .val (.int y), .val (.int (n).toInt32), .val (.int nl), .unset] [])
    refine Go.st (T' := T9) (g' := (mkF m 53 #[.val (.ref a), .val (.int y), .val (.int (n).toInt32), .val (.int nl), .unset] [(.int (n).toInt32)])) (fun t_ k_ => XS.iloadN X9.here hx rfl (hb hby d7_52) rfl k_) ?_
    refine Go.st (T' := T9) (g' := (mkF m 55 #[.val (.ref a), .val (.int y), .val (.int (n).toInt32), .val (.int nl), .val (.int (n).toInt32)] [])) (fun t_ k_ => XS.istore X9.here hx rfl (hb hby d7_53) rfl (l' := #[.val (.ref a), .val (.int y), .val (.int (n).toInt32), .val (.int nl), .val (.int (n).toInt32)]) rfl k_) ?_
    have J55 : ∀ (k_J55 : Nat) (i4 : Int32) (pb : Nat → Int32) (T_J55 : State) (h_J55 : Heap), (nl.toNatClampNeg - i4.toNatClampNeg) = k_J55 → Stn p l e ({ frames := 2, cells := 2, slots := 92, locals := 90 } : Room) s m #[(.ref a), (.int y)] below meth c n0 T_J55 h_J55 2 92 → n0 ≤ h_J55.size → Keep h0 h_J55 [a] → Exa Z h_J55 a "com/example/cellsight/cellsight/analysis/UnionFind" → Fld Z h_J55 a "com/example/cellsight/cellsight/analysis/UnionFind" "parent" "[I" (.ref qA) → Fld Z h_J55 a "com/example/cellsight/cellsight/analysis/UnionFind" "rank" "[I" (.ref qK) → Exa Z h_J55 qA "[I" → Exa Z h_J55 qK "[I" → Ary Z h_J55 qA .int nl.toNatClampNeg (fun i => .int (pb i)) → Ary Z h_J55 qK .int nl.toNatClampNeg (fun i => .int (own_cpf n rk i)) → qA ≠ qK → (¬ i4 < 0) → (own_gi n nl.toNatClampNeg i4.toNatClampNeg par pb) → Go p e below (PostW s n0 (2 : Nat) (92 : Nat) (Q7 Z n0 h0 a y pA kA n par rk)) T_J55 (mkF m 55 #[.val (.ref a), .val (.int y), .val (.int (n).toInt32), .val (.int nl), .val (.int i4)] []) := by
      intro k_J55
      induction k_J55 using Nat.strongRecOn with
      | _ k_J55 ih_J55 =>
        intro i4 pb T_J55 h_J55 hk_J55 X_J55 sz_J55 K_J55 g0_J55 g1_J55 g2_J55 g3_J55 g4_J55 g5_J55 g6_J55 g7_J55 m1 m2
        refine Go.st (T' := T_J55) (g' := (mkF m 57 #[.val (.ref a), .val (.int y), .val (.int (n).toInt32), .val (.int nl), .val (.int i4)] [(.int i4)])) (fun t_ k_ => XS.iload X_J55.here hx rfl (hb hby d7_55) rfl k_) ?_
        refine Go.st (T' := T_J55) (g' := (mkF m 58 #[.val (.ref a), .val (.int y), .val (.int (n).toInt32), .val (.int nl), .val (.int i4)] [(.int nl), (.int i4)])) (fun t_ k_ => XS.iloadN X_J55.here hx rfl (hb hby d7_57) rfl k_) ?_
        by_cases hc58 : i4 < nl
        · skip
          refine Go.st (T' := T_J55) (g' := (mkF m 61 #[.val (.ref a), .val (.int y), .val (.int (n).toInt32), .val (.int nl), .val (.int i4)] [])) (fun t_ k_ => XS.icmpNo X_J55.here hx rfl (hb hby d7_58) rfl (tlt hc58).2.1 k_) ?_
          have hlt : i4.toNatClampNeg < nl.toNatClampNeg := by have q1 := nat_of m1; have q2 := nat_of hk.1; have q3 := hc58; rw [Int32.lt_iff_toInt_lt] at q3; omega
          refine Go.st (T' := T_J55) (g' := (mkF m 62 #[.val (.ref a), .val (.int y), .val (.int (n).toInt32), .val (.int nl), .val (.int i4)] [(.ref a)])) (fun t_ k_ => XS.aloadN X_J55.here hx rfl (hb hby d7_61) rfl rfl k_) ?_
          refine goGet X_J55 hx hZ hown (host := "") (Or.inl (hw _ (List.mem_of_getElem? (i := 11) rfl))) Via.refl g1_J55 (hb hby d7_62) fun T10 X10 => ?_
          show Go p e below _ T10 (mkF m 65 #[.val (.ref a), .val (.int y), .val (.int (n).toInt32), .val (.int nl), .val (.int i4)] [(.ref qA)])
          refine Go.st (T' := T10) (g' := (mkF m 67 #[.val (.ref a), .val (.int y), .val (.int (n).toInt32), .val (.int nl), .val (.int i4)] [(.int i4), (.ref qA)])) (fun t_ k_ => XS.iload X10.here hx rfl (hb hby d7_65) rfl k_) ?_
          refine Go.st (T' := T10) (g' := (mkF m 69 #[.val (.ref a), .val (.int y), .val (.int (n).toInt32), .val (.int nl), .val (.int i4)] [(.int i4), (.int i4), (.ref qA)])) (fun t_ k_ => XS.iload X10.here hx rfl (hb hby d7_67) rfl k_) ?_
          refine goStI X10 hx hZ (f := (fun i => (pb i))) g5_J55 (j := i4) (own_inb m1 hlt) ge5_qA (hb hby d7_69) fun T11 h11 X11 W11 A11 => ?_
          have f11_15 : Exa Z h11 a "com/example/cellsight/cellsight/analysis/UnionFind" := g0_J55.wr W11
          have f11_16 : Fld Z h11 a "com/example/cellsight/cellsight/analysis/UnionFind" "parent" "[I" (.ref qA) := g1_J55.other W11 (Or.inl ne5_a_qA)
          have f11_17 : Fld Z h11 a "com/example/cellsight/cellsight/analysis/UnionFind" "rank" "[I" (.ref qK) := g2_J55.other W11 (Or.inl ne5_a_qA)
          have f11_18 : Exa Z h11 qA "[I" := g3_J55.wr W11
          have f11_19 : Exa Z h11 qK "[I" := g4_J55.wr W11
          have f11_20 : Ary Z h11 qK .int nl.toNatClampNeg (fun i => .int (own_cpf n rk i)) := g6_J55.other W11 g7_J55.symm
          have sz11 : n0 ≤ h11.size := Nat.le_trans sz_J55 (Keep.of_wr W11).1
          have K11 : Keep h0 h11 [a] := K_J55.wr W11 (Or.inr fr5_qA)
          show Go p e below _ T11 (mkF m 70 #[.val (.ref a), .val (.int y), .val (.int (n).toInt32), .val (.int nl), .val (.int i4)] [])
          refine Go.st (T' := T11) (g' := (mkF m 73 #[.val (.ref a), .val (.int y), .val (.int (n).toInt32), .val (.int nl), .val (.int (i4 + (1 : Int32)))] [])) (fun t_ k_ => XS.iinc X11.here hx rfl (hb hby d7_70) rfl (l' := #[.val (.ref a), .val (.int y), .val (.int (n).toInt32), .val (.int nl), .val (.int (i4 + (1 : Int32)))]) rfl k_) ?_
          refine Go.st (T' := T11) (g' := (mkF m 55 #[.val (.ref a), .val (.int y), .val (.int (n).toInt32), .val (.int nl), .val (.int (i4 + (1 : Int32)))] [])) (fun t_ k_ => XS.goto X11.here hx rfl (pc0 := 73) (pc' := 55) rfl (hb hby d7_73) (by decide) (by decide) k_) ?_
          exact ih_J55 _ (by have z := (own_succ (n := nl.toNatClampNeg) (by omega) m1 hlt).2; omega) (i4 + (1 : Int32)) (fun i => (if i = (i4).toNatClampNeg then i4 else (fun i => (pb i)) i)) T11 h11 rfl (X11.mono (by decide) (by decide)) sz11 K11 f11_15 f11_16 f11_17 f11_18 f11_19 A11 f11_20 g7_J55 ((own_succ (n := nl.toNatClampNeg) (by omega) m1 hlt).1) (own_gs hk.2 m1 hlt m2)
        · skip
          refine Go.st (T' := T_J55) (g' := (mkF m 76 #[.val (.ref a), .val (.int y), .val (.int (n).toInt32), .val (.int nl), .val (.int i4)] [])) (fun t_ k_ => XS.icmpYes X_J55.here hx rfl (pc0 := 58) (pc' := 76) rfl (hb hby d7_58) rfl (flt hc58).2.1 (by decide) (by decide) k_) ?_
          refine goRetV X_J55 hx hlk hret (hb hby d7_76) (by decide) (by decide) ?_
          refine ⟨qA, qK, nl.toNatClampNeg, pb, (fun i => (own_cpf n rk i)), rfl, K_J55, g0_J55, g1_J55, g2_J55, g3_J55, g4_J55, g5_J55, g6_J55, g7, ge5_qA, ge8_qK, g7_J55, ?_, ?_, ?_⟩
          · exact ⟨hk.2, hyk, Nat.le_of_lt hnk, fun v hv => m2.2.2 v (by have q1 := nat_of m1; have q2 := nat_of hk.1; have q3 := hc58; rw [Int32.lt_iff_toInt_lt] at q3; omega)⟩
          · exact Or.inr fr5_qA
          · exact Or.inr fr8_qK
    exact J55 _ (n).toInt32 (fun i => (own_cpf n par i)) T9 h9 rfl (X9.mono (by decide) (by decide)) sz9 K9 f9_0 f9_16 Fw9 f9_14 f9_23 f9_15 f9_24 ne8_qA_qK ((z_of (by omega)).2) (⟨by rw [(z_of (by omega)).1]; exact Nat.le_refl _, by rw [(z_of (by omega)).1]; omega, fun v hv => by rw [(z_of (by omega)).1] at hv; simp [own_cpf, hv]⟩)

theorem own_mx {y1 y2 r : Int32} {n' : Nat} (hr : (r = y1 ∧ ¬ y1 < y2) ∨ (r = y2 ∧ y1 < y2)) (h1 : ¬ y1 < 0) (h2 : ¬ y2 < 0) (h : r.toNatClampNeg < n') : y1.toNatClampNeg < n' ∧ y2.toNatClampNeg < n' := by
  have a1 := nat_of h1
  have a2 := nat_of h2
  rcases hr with ⟨rfl, z⟩ | ⟨rfl, z⟩ <;> rw [Int32.lt_iff_toInt_lt] at z <;> omega
theorem own_mx2 {y1 y2 r : Int32} (hr : (r = y1 ∧ ¬ y1 < y2) ∨ (r = y2 ∧ y1 < y2)) (h1 : ¬ y1 < 0 ∧ y1.toNatClampNeg ≤ 31) (h2 : ¬ y2 < 0 ∧ y2.toNatClampNeg ≤ 31) : ¬ r < 0 ∧ r.toNatClampNeg ≤ 31 := by
  rcases hr with ⟨rfl, -⟩ | ⟨rfl, -⟩
  · exact h1
  · exact h2
theorem own_lkc {n : Nat} {par : Nat → Int32} {rt : Nat → Nat} {x1 x2 r : Nat} (h : own_S n par (own_lk rt x1 x2 r)) : own_S n par (own_lk rt x2 x1 r) := h.congr fun v => by unfold own_lk; simp only [or_comm]

theorem d5_0 : decode prog_21_method_3_code 0 = .ok (.aload_n 0, 1) := by decide +kernel
theorem d5_1 : decode prog_21_method_3_code 1 = .ok (.iload_n 1, 1) := by decide +kernel
theorem d5_2 : decode prog_21_method_3_code 2 = .ok (.iload_n 2, 1) := by decide +kernel
theorem d5_3 : decode prog_21_method_3_code 3 = .ok (.invokestatic 16, 3) := by decide +kernel
theorem d5_6 : decode prog_21_method_3_code 6 = .ok (.invokevirtual 22, 3) := by decide +kernel
theorem d5_9 : decode prog_21_method_3_code 9 = .ok (.aload_n 0, 1) := by decide +kernel
theorem d5_10 : decode prog_21_method_3_code 10 = .ok (.getfield 13, 3) := by decide +kernel
theorem d5_13 : decode prog_21_method_3_code 13 = .ok (.iload_n 1, 1) := by decide +kernel
theorem d5_14 : decode prog_21_method_3_code 14 = .ok (.iaload, 1) := by decide +kernel
theorem d5_15 : decode prog_21_method_3_code 15 = .ok (.aload_n 0, 1) := by decide +kernel
theorem d5_16 : decode prog_21_method_3_code 16 = .ok (.getfield 13, 3) := by decide +kernel
theorem d5_19 : decode prog_21_method_3_code 19 = .ok (.iload_n 2, 1) := by decide +kernel
theorem d5_20 : decode prog_21_method_3_code 20 = .ok (.iaload, 1) := by decide +kernel
theorem d5_21 : decode prog_21_method_3_code 21 = .ok (.if_icmp .ge 12, 3) := by decide +kernel
theorem d5_24 : decode prog_21_method_3_code 24 = .ok (.aload_n 0, 1) := by decide +kernel
theorem d5_25 : decode prog_21_method_3_code 25 = .ok (.getfield 7, 3) := by decide +kernel
theorem d5_28 : decode prog_21_method_3_code 28 = .ok (.iload_n 1, 1) := by decide +kernel
theorem d5_29 : decode prog_21_method_3_code 29 = .ok (.iload_n 2, 1) := by decide +kernel
theorem d5_30 : decode prog_21_method_3_code 30 = .ok (.iastore, 1) := by decide +kernel
theorem d5_31 : decode prog_21_method_3_code 31 = .ok (.iload_n 2, 1) := by decide +kernel
theorem d5_32 : decode prog_21_method_3_code 32 = .ok (.ireturn, 1) := by decide +kernel
theorem d5_33 : decode prog_21_method_3_code 33 = .ok (.aload_n 0, 1) := by decide +kernel
theorem d5_34 : decode prog_21_method_3_code 34 = .ok (.getfield 13, 3) := by decide +kernel
theorem d5_37 : decode prog_21_method_3_code 37 = .ok (.iload_n 1, 1) := by decide +kernel
theorem d5_38 : decode prog_21_method_3_code 38 = .ok (.iaload, 1) := by decide +kernel
theorem d5_39 : decode prog_21_method_3_code 39 = .ok (.aload_n 0, 1) := by decide +kernel
theorem d5_40 : decode prog_21_method_3_code 40 = .ok (.getfield 13, 3) := by decide +kernel
theorem d5_43 : decode prog_21_method_3_code 43 = .ok (.iload_n 2, 1) := by decide +kernel
theorem d5_44 : decode prog_21_method_3_code 44 = .ok (.iaload, 1) := by decide +kernel
theorem d5_45 : decode prog_21_method_3_code 45 = .ok (.if_icmp .ne 13, 3) := by decide +kernel
theorem d5_48 : decode prog_21_method_3_code 48 = .ok (.aload_n 0, 1) := by decide +kernel
theorem d5_49 : decode prog_21_method_3_code 49 = .ok (.getfield 13, 3) := by decide +kernel
theorem d5_52 : decode prog_21_method_3_code 52 = .ok (.iload_n 1, 1) := by decide +kernel
theorem d5_53 : decode prog_21_method_3_code 53 = .ok (.dup2, 1) := by decide +kernel
theorem d5_54 : decode prog_21_method_3_code 54 = .ok (.iaload, 1) := by decide +kernel
theorem d5_55 : decode prog_21_method_3_code 55 = .ok (.iconst 1, 1) := by decide +kernel
theorem d5_56 : decode prog_21_method_3_code 56 = .ok (.iadd, 1) := by decide +kernel
theorem d5_57 : decode prog_21_method_3_code 57 = .ok (.iastore, 1) := by decide +kernel
theorem d5_58 : decode prog_21_method_3_code 58 = .ok (.aload_n 0, 1) := by decide +kernel
theorem d5_59 : decode prog_21_method_3_code 59 = .ok (.getfield 7, 3) := by decide +kernel
theorem d5_62 : decode prog_21_method_3_code 62 = .ok (.iload_n 2, 1) := by decide +kernel
theorem d5_63 : decode prog_21_method_3_code 63 = .ok (.iload_n 1, 1) := by decide +kernel
theorem d5_64 : decode prog_21_method_3_code 64 = .ok (.iastore, 1) := by decide +kernel
theorem d5_65 : decode prog_21_method_3_code 65 = .ok (.iload_n 1, 1) := by decide +kernel
theorem d5_66 : decode prog_21_method_3_code 66 = .ok (.ireturn, 1) := by decide +kernel
theorem pn_5 : plainFor (⟨"com/example/cellsight/cellsight/analysis/UnionFind", "link", "(II)I"⟩ : MethodName) = true := plainFor_of_name (by first | (simp [plainName, overriddenIn]; done) | decide +kernel)
theorem pd_fdc785a8 : parseMethodDescriptor "(I)V" = some ⟨[.int], none⟩ := by decide +kernel
theorem ef_rm5 (m : MethodId) (x0 : Addr) (x1 : Int32) (x2 : Int32) : entryFrame m #[(.ref x0), (.int x1), (.int x2)] 3 = mkF m 0 #[.val (.ref x0), .val (.int x1), .val (.int x2)] [] := by first | (simp [entryFrame, mkF, argsToLocals, Value.category]; done) | rfl
def Q5 (Z : State) (n0 : Nat) (h0 : Heap) (a : Addr) (y1 : Int32) (y2 : Int32) (pA : Addr) (kA : Addr) (n : Nat) (par : Nat → Int32) (rk : Nat → Int32) (rt : Nat → Nat) (v : Option Value) (h : Heap) : Prop := ∃ (r : Int32) (pA' : Addr) (kA' : Addr) (n' : Nat) (par' : Nat → Int32) (rk' : Nat → Int32), v = some (.int r) ∧ Keep h0 h [a, pA, kA] ∧ Exa Z h a "com/example/cellsight/cellsight/analysis/UnionFind" ∧ Fld Z h a "com/example/cellsight/cellsight/analysis/UnionFind" "parent" "[I" (.ref pA') ∧ Fld Z h a "com/example/cellsight/cellsight/analysis/UnionFind" "rank" "[I" (.ref kA') ∧ Exa Z h pA' "[I" ∧ Exa Z h kA' "[I" ∧ Ary Z h pA' .int n' (fun i => .int (par' i)) ∧ Ary Z h kA' .int n' (fun i => .int (rk' i)) ∧ n0 ≤ a ∧ n0 ≤ pA' ∧ n0 ≤ kA' ∧ pA' ≠ kA' ∧ (own_S n' par' (own_lk rt y1.toNatClampNeg y2.toNatClampNeg r.toNatClampNeg)) ∧ (n' ≤ 46) ∧ (r = y1 ∨ r = y2)
set_option maxRecDepth 65536 in
set_option maxHeartbeats 40000000 in
theorem rm5 (l : Launch) (Z : State) (a0 : Array Value) (hw : ∀ d ∈ tables_1, d.before a0 Z = true) (ws : List Jvm.Cond) (n0 : Nat) (h0 : Heap) (a : Addr) (y1 : Int32) (y2 : Int32) (pA : Addr) (kA : Addr) (n : Nat) (par : Nat → Int32) (rk : Nat → Int32) (rt : Nat → Nat) (sz0 : n0 ≤ h0.size) (g0 : Exa Z h0 a "com/example/cellsight/cellsight/analysis/UnionFind") (g1 : Fld Z h0 a "com/example/cellsight/cellsight/analysis/UnionFind" "parent" "[I" (.ref pA)) (g2 : Fld Z h0 a "com/example/cellsight/cellsight/analysis/UnionFind" "rank" "[I" (.ref kA)) (g3 : Exa Z h0 pA "[I") (g4 : Exa Z h0 kA "[I") (g5 : Ary Z h0 pA .int n (fun i => .int (par i))) (g6 : Ary Z h0 kA .int n (fun i => .int (rk i))) (g7 : n0 ≤ a) (g8 : n0 ≤ pA) (g9 : n0 ≤ kA) (g10 : pA ≠ kA) (hS : own_S n par rt) (hn : n ≤ 46) (hy1 : ¬ y1 < 0 ∧ y1.toNatClampNeg ≤ 31) (hy2 : ¬ y2 < 0 ∧ y2.toNatClampNeg ≤ 31) (hne : y1.toNatClampNeg ≠ y2.toNatClampNeg) (e1 : rt y1.toNatClampNeg = y1.toNatClampNeg) (e2 : rt y2.toNatClampNeg = y2.toNatClampNeg) :
    Con l (⟨"com/example/cellsight/cellsight/analysis/UnionFind", "link", "(II)I"⟩ : MethodName) prog_21_method_3_code 3 (some .int) ({ frames := 3, cells := 2, slots := 92, locals := 130 } : Room) ws Z n0 #[(.ref a), (.int y1), (.int y2)] h0 (Q5 Z n0 h0 a y1 y2 pA kA n par rk rt) := by
  refine Con.body pn_5 ?_
  intro p e s m below meth c s₁ hx hby hml hown hnm hret hlk hZ X0
  have hown : s.vm.findClass "com/example/cellsight/cellsight/analysis/UnionFind" = some m.cls := hown
  have hnm : meth.name = "link" := hnm
  have K0 : Keep h0 h0 [a, pA, kA] := Keep.refl _ _
  rw [show entryFrame m #[(.ref a), (.int y1), (.int y2)] 3 = mkF m 0 #[.val (.ref a), .val (.int y1), .val (.int y2)] [] from ef_rm5 m a y1 y2]
  show Go p e below (PostW s n0 (2 : Nat) (92 : Nat) (Q5 Z n0 h0 a y1 y2 pA kA n par rk rt)) s₁ (mkF m 0 #[.val (.ref a), .val (.int y1), .val (.int y2)] [])
  refine Go.st (T' := s₁) (g' := (mkF m 1 #[.val (.ref a), .val (.int y1), .val (.int y2)] [(.ref a)])) (fun t_ k_ => XS.aloadN X0.here hx rfl (hb hby d5_0) rfl rfl k_) ?_
  refine Go.st (T' := s₁) (g' := (mkF m 2 #[.val (.ref a), .val (.int y1), .val (.int y2)] [(.int y1), (.ref a)])) (fun t_ k_ => XS.iloadN X0.here hx rfl (hb hby d5_1) rfl k_) ?_
  refine Go.st (T' := s₁) (g' := (mkF m 3 #[.val (.ref a), .val (.int y1), .val (.int y2)] [(.int y2), (.int y1), (.ref a)])) (fun t_ k_ => XS.iloadN X0.here hx rfl (hb hby d5_2) rfl k_) ?_
  refine goStatic X0 hx hZ (y := (⟨"java/lang/Math", "max", "(II)I"⟩ : MethodName)) hown (hw _ (List.mem_of_getElem? (i := 29) rfl)) (hw _ (List.mem_of_getElem? (i := 30) rfl)) (hw _ (List.mem_of_getElem? (i := 31) rfl)) (hw _ (List.mem_of_getElem? (i := 32) rfl)) (by decide) (rm6 l Z a0 hw [] n0 h0 y1 y2 sz0) 1 (by decide) (by decide) (by rw [hml]; rfl) [(.int y1), (.int y2)] [(.ref a)] (lenOf pd_e58254ff rfl) rfl rfl rfl (hb hby d5_3) (by decide) (by decide) fun v1 T1 h1 X1 hq1 => ?_
  obtain ⟨mx, rfl, eh1, tmx⟩ := hq1
  rw [eh1] at X1
  show Go p e below _ T1 (mkF m 6 #[.val (.ref a), .val (.int y1), .val (.int y2)] [(.int mx), (.ref a)])
  refine goPriv X1 hx hZ (y := (⟨"com/example/cellsight/cellsight/analysis/UnionFind", "grow", "(I)V"⟩ : MethodName)) hown (hw _ (List.mem_of_getElem? (i := 33) rfl)) (hw _ (List.mem_of_getElem? (i := 34) rfl)) (hw _ (List.mem_of_getElem? (i := 2) rfl)) (hw _ (List.mem_of_getElem? (i := 35) rfl)) (hw _ (List.mem_of_getElem? (i := 3) rfl)) (hw _ (List.mem_of_getElem? (i := 36) rfl)) (by decide) g0 (rm7 l Z a0 hw [] n0 h0 a mx pA kA n par rk sz0 g0 g1 g2 g3 g4 g5 g6 g7 g8 g9 g10 (hn) (own_mx2 tmx hy1 hy2)) 0 (by decide) (by decide) (by rw [hml]; rfl) [(.int mx)] [] (lenOf pd_fdc785a8 rfl) rfl rfl rfl (hb hby d5_6) (by decide) (by decide) fun v2 T2 h2 X2 hq2 => ?_
  obtain ⟨qP, qK, n2, pr2, rk2, rfl, K2c, p2_0, p2_1, p2_2, p2_3, p2_4, p2_5, p2_6, p2_7, p2_8, p2_9, p2_10, hg, hm1, hm2⟩ := hq2
  have f2_0 : Exa Z h2 a "com/example/cellsight/cellsight/analysis/UnionFind" := g0.keep K2c
  have f2_1 : Exa Z h2 pA "[I" := g3.keep K2c
  have f2_2 : Exa Z h2 kA "[I" := g4.keep K2c
  have f2_3 : Ary Z h2 pA .int n (fun i => .int (par i)) := g5.keep K2c (ninS (ne_exa g3 g0 (by decide)) nin0)
  have f2_4 : Ary Z h2 kA .int n (fun i => .int (rk i)) := g6.keep K2c (ninS (ne_exa g4 g0 (by decide)) nin0)
  have sz2 : n0 ≤ h2.size := Nat.le_trans sz0 K2c.1
  have K2 : Keep h0 h2 [a, pA, kA] := K0.trans K2c (allS (Or.inl (List.mem_of_getElem? (i := 0) rfl)) all0)
  have hb12 := own_mx tmx hy1.1 hy2.1 hg.2.1
  have hSg := own_grow hS hg.2.2.1 hg.1 hg.2.2.2
  have wm1 : qP ∈ [a, pA, kA] ∨ h0.size ≤ qP := hm1.elim (fun z => Or.inl (by rw [z]; exact List.mem_of_getElem? (i := 1) rfl)) (fun z => Or.inr (Nat.le_trans K0.1 z))
  have wm2 : qK ∈ [a, pA, kA] ∨ h0.size ≤ qK := hm2.elim (fun z => Or.inl (by rw [z]; exact List.mem_of_getElem? (i := 2) rfl)) (fun z => Or.inr (Nat.le_trans K0.1 z))
  show Go p e below _ T2 (mkF m 9 #[.val (.ref a), .val (.int y1), .val (.int y2)] [])
  refine Go.st (T' := T2) (g' := (mkF m 10 #[.val (.ref a), .val (.int y1), .val (.int y2)] [(.ref a)])) (fun t_ k_ => XS.aloadN X2.here hx rfl (hb hby d5_9) rfl rfl k_) ?_
  refine goGet X2 hx hZ hown (host := "") (Or.inl (hw _ (List.mem_of_getElem? (i := 13) rfl))) Via.refl p2_2 (hb hby d5_10) fun T3 X3 => ?_
  show Go p e below _ T3 (mkF m 13 #[.val (.ref a), .val (.int y1), .val (.int y2)] [(.ref qK)])
  refine Go.st (T' := T3) (g' := (mkF m 14 #[.val (.ref a), .val (.int y1), .val (.int y2)] [(.int y1), (.ref qK)])) (fun t_ k_ => XS.iloadN X3.here hx rfl (hb hby d5_13) rfl k_) ?_
  refine goLdI X3 hx hZ (f := (fun i => (rk2 i))) p2_6 (j := y1) (own_inb hy1.1 hb12.1) (hb hby d5_14) ?_
  show Go p e below _ T3 (mkF m 15 #[.val (.ref a), .val (.int y1), .val (.int y2)] [(.int (rk2 (y1).toNatClampNeg))])
  refine Go.st (T' := T3) (g' := (mkF m 16 #[.val (.ref a), .val (.int y1), .val (.int y2)] [(.ref a), (.int (rk2 (y1).toNatClampNeg))])) (fun t_ k_ => XS.aloadN X3.here hx rfl (hb hby d5_15) rfl rfl k_) ?_
  refine goGet X3 hx hZ hown (host := "") (Or.inl (hw _ (List.mem_of_getElem? (i := 13) rfl))) Via.refl p2_2 (hb hby d5_16) fun T4 X4 => ?_
  show Go p e below _ T4 (mkF m 19 #[.val (.ref a), .val (.int y1), .val (.int y2)] [(.ref qK), (.int (rk2 (y1).toNatClampNeg))])
  refine Go.st (T' := T4) (g' := (mkF m 20 #[.val (.ref a), .val (.int y1), .val (.int y2)] [(.int y2), (.ref qK), (.int (rk2 (y1).toNatClampNeg))])) (fun t_ k_ => XS.iloadN X4.here hx rfl (hb hby d5_19) rfl k_) ?_
  refine goLdI X4 hx hZ (f := (fun i => (rk2 i))) p2_6 (j := y2) (own_inb hy2.1 hb12.2) (hb hby d5_20) ?_
  show Go p e below _ T4 (mkF m 21 #[.val (.ref a), .val (.int y1), .val (.int y2)] [(.int (rk2 (y2).toNatClampNeg)), (.int (rk2 (y1).toNatClampNeg))])
  by_cases hc21 : (rk2 (y1).toNatClampNeg) < (rk2 (y2).toNatClampNeg)
  · skip
    refine Go.st (T' := T4) (g' := (mkF m 24 #[.val (.ref a), .val (.int y1), .val (.int y2)] [])) (fun t_ k_ => XS.icmpNo X4.here hx rfl (hb hby d5_21) rfl (tlt hc21).2.1 k_) ?_
    refine Go.st (T' := T4) (g' := (mkF m 25 #[.val (.ref a), .val (.int y1), .val (.int y2)] [(.ref a)])) (fun t_ k_ => XS.aloadN X4.here hx rfl (hb hby d5_24) rfl rfl k_) ?_
    refine goGet X4 hx hZ hown (host := "") (Or.inl (hw _ (List.mem_of_getElem? (i := 11) rfl))) Via.refl p2_1 (hb hby d5_25) fun T5 X5 => ?_
    show Go p e below _ T5 (mkF m 28 #[.val (.ref a), .val (.int y1), .val (.int y2)] [(.ref qP)])
    refine Go.st (T' := T5) (g' := (mkF m 29 #[.val (.ref a), .val (.int y1), .val (.int y2)] [(.int y1), (.ref qP)])) (fun t_ k_ => XS.iloadN X5.here hx rfl (hb hby d5_28) rfl k_) ?_
    refine Go.st (T' := T5) (g' := (mkF m 30 #[.val (.ref a), .val (.int y1), .val (.int y2)] [(.int y2), (.int y1), (.ref qP)])) (fun t_ k_ => XS.iloadN X5.here hx rfl (hb hby d5_29) rfl k_) ?_
    refine goStI X5 hx hZ (f := (fun i => (pr2 i))) p2_5 (j := y1) (own_inb hy1.1 hb12.1) p2_8 (hb hby d5_30) fun T6 h6 X6 W6 A6 => ?_
    have f6_0 : Exa Z h6 a "com/example/cellsight/cellsight/analysis/UnionFind" := p2_0.wr W6
    have f6_1 : Exa Z h6 pA "[I" := f2_1.wr W6
    have f6_2 : Exa Z h6 kA "[I" := f2_2.wr W6
    have f6_7 : Fld Z h6 a "com/example/cellsight/cellsight/analysis/UnionFind" "parent" "[I" (.ref qP) := p2_1.other W6 (Or.inl (ne_exa p2_0 p2_3 (by decide)))
    have f6_8 : Fld Z h6 a "com/example/cellsight/cellsight/analysis/UnionFind" "rank" "[I" (.ref qK) := p2_2.other W6 (Or.inl (ne_exa p2_0 p2_3 (by decide)))
    have f6_9 : Exa Z h6 qP "[I" := p2_3.wr W6
    have f6_10 : Exa Z h6 qK "[I" := p2_4.wr W6
    have f6_11 : Ary Z h6 qK .int n2 (fun i => .int (rk2 i)) := p2_6.other W6 p2_10.symm
    have sz6 : n0 ≤ h6.size := Nat.le_trans sz2 (Keep.of_wr W6).1
    have K6 : Keep h0 h6 [a, pA, kA] := K2.wr W6 (wm1)
    show Go p e below _ T6 (mkF m 31 #[.val (.ref a), .val (.int y1), .val (.int y2)] [])
    refine Go.st (T' := T6) (g' := (mkF m 32 #[.val (.ref a), .val (.int y1), .val (.int y2)] [(.int y2)])) (fun t_ k_ => XS.iloadN X6.here hx rfl (hb hby d5_31) rfl k_) ?_
    refine goRetI X6 hx hlk hret (hb hby d5_32) (by decide) (by decide) ?_
    refine ⟨y2, qP, qK, n2, (fun i => (if i = (y1).toNatClampNeg then y2 else (fun i => (pr2 i)) i)), rk2, rfl, K6, f6_0, f6_7, f6_8, f6_9, f6_10, A6, f6_11, p2_7, p2_8, p2_9, p2_10, ?_, ?_, ?_⟩
    · exact own_link hSg hb12.1 hb12.2 hy2.1 hne e1 e2
    · exact hg.1
    · exact Or.inr rfl
  · skip
    refine Go.st (T' := T4) (g' := (mkF m 33 #[.val (.ref a), .val (.int y1), .val (.int y2)] [])) (fun t_ k_ => XS.icmpYes X4.here hx rfl (pc0 := 21) (pc' := 33) rfl (hb hby d5_21) rfl (flt hc21).2.1 (by decide) (by decide) k_) ?_
    refine Go.st (T' := T4) (g' := (mkF m 34 #[.val (.ref a), .val (.int y1), .val (.int y2)] [(.ref a)])) (fun t_ k_ => XS.aloadN X4.here hx rfl (hb hby d5_33) rfl rfl k_) ?_
    refine goGet X4 hx hZ hown (host := "") (Or.inl (hw _ (List.mem_of_getElem? (i := 13) rfl))) Via.refl p2_2 (hb hby d5_34) fun T7 X7 => ?_
    show Go p e below _ T7 (mkF m 37 #[.val (.ref a), .val (.int y1), .val (.int y2)] [(.ref qK)])
    refine Go.st (T' := T7) (g' := (mkF m 38 #[.val (.ref a), .val (.int y1), .val (.int y2)] [(.int y1), (.ref qK)])) (fun t_ k_ => XS.iloadN X7.here hx rfl (hb hby d5_37) rfl k_) ?_
    refine goLdI X7 hx hZ (f := (fun i => (rk2 i))) p2_6 (j := y1) (own_inb hy1.1 hb12.1) (hb hby d5_38) ?_
    show Go p e below _ T7 (mkF m 39 #[.val (.ref a), .val (.int y1), .val (.int y2)] [(.int (rk2 (y1).toNatClampNeg))])
    refine Go.st (T' := T7) (g' := (mkF m 40 #[.val (.ref a), .val (.int y1), .val (.int y2)] [(.ref a), (.int (rk2 (y1).toNatClampNeg))])) (fun t_ k_ => XS.aloadN X7.here hx rfl (hb hby d5_39) rfl rfl k_) ?_
    refine goGet X7 hx hZ hown (host := "") (Or.inl (hw _ (List.mem_of_getElem? (i := 13) rfl))) Via.refl p2_2 (hb hby d5_40) fun T8 X8 => ?_
    show Go p e below _ T8 (mkF m 43 #[.val (.ref a), .val (.int y1), .val (.int y2)] [(.ref qK), (.int (rk2 (y1).toNatClampNeg))])
    refine Go.st (T' := T8) (g' := (mkF m 44 #[.val (.ref a), .val (.int y1), .val (.int y2)] [(.int y2), (.ref qK), (.int (rk2 (y1).toNatClampNeg))])) (fun t_ k_ => XS.iloadN X8.here hx rfl (hb hby d5_43) rfl k_) ?_
    refine goLdI X8 hx hZ (f := (fun i => (rk2 i))) p2_6 (j := y2) (own_inb hy2.1 hb12.2) (hb hby d5_44) ?_
    show Go p e below _ T8 (mkF m 45 #[.val (.ref a), .val (.int y1), .val (.int y2)] [(.int (rk2 (y2).toNatClampNeg)), (.int (rk2 (y1).toNatClampNeg))])
    by_cases hc45 : (rk2 (y1).toNatClampNeg) = (rk2 (y2).toNatClampNeg)
    · skip
      refine Go.st (T' := T8) (g' := (mkF m 48 #[.val (.ref a), .val (.int y1), .val (.int y2)] [])) (fun t_ k_ => XS.icmpNo X8.here hx rfl (hb hby d5_45) rfl (teq hc45).2 k_) ?_
      refine Go.st (T' := T8) (g' := (mkF m 49 #[.val (.ref a), .val (.int y1), .val (.int y2)] [(.ref a)])) (fun t_ k_ => XS.aloadN X8.here hx rfl (hb hby d5_48) rfl rfl k_) ?_
      refine goGet X8 hx hZ hown (host := "") (Or.inl (hw _ (List.mem_of_getElem? (i := 13) rfl))) Via.refl p2_2 (hb hby d5_49) fun T9 X9 => ?_
      show Go p e below _ T9 (mkF m 52 #[.val (.ref a), .val (.int y1), .val (.int y2)] [(.ref qK)])
      refine Go.st (T' := T9) (g' := (mkF m 53 #[.val (.ref a), .val (.int y1), .val (.int y2)] [(.int y1), (.ref qK)])) (fun t_ k_ => XS.iloadN X9.here hx rfl (hb hby d5_52) rfl k_) ?_
      refine Go.st (T' := T9) (g' := (mkF m 54 #[.val (.ref a), .val (.int y1), .val (.int y2)] [(.int y1), (.ref qK), (.int y1), (.ref qK)])) (fun t_ k_ => XT.dup2 X9.here hx rfl (hb hby d5_53) rfl rfl rfl k_) ?_
      refine goLdI X9 hx hZ (f := (fun i => (rk2 i))) p2_6 (j := y1) (own_inb hy1.1 hb12.1) (hb hby d5_54) ?_
      show Go p e below _ T9 (mkF m 55 #[.val (.ref a), .val (.int y1), .val (.int y2)] [(.int (rk2 (y1).toNatClampNeg)), (.int y1), (.ref qK)])
      refine Go.st (T' := T9) (g' := (mkF m 56 #[.val (.ref a), .val (.int y1), .val (.int y2)] [(.int (1 : Int32)), (.int (rk2 (y1).toNatClampNeg)), (.int y1), (.ref qK)])) (fun t_ k_ => XS.iconst X9.here hx rfl (hb hby d5_55) k_) ?_
      refine Go.st (T' := T9) (g' := (mkF m 57 #[.val (.ref a), .val (.int y1), .val (.int y2)] [(.int ((rk2 (y1).toNatClampNeg) + (1 : Int32))), (.int y1), (.ref qK)])) (fun t_ k_ => XS.iadd X9.here hx rfl (hb hby d5_56) rfl k_) ?_
      refine goStI X9 hx hZ (f := (fun i => (rk2 i))) p2_6 (j := y1) (own_inb hy1.1 hb12.1) p2_9 (hb hby d5_57) fun T10 h10 X10 W10 A10 => ?_
      have f10_0 : Exa Z h10 a "com/example/cellsight/cellsight/analysis/UnionFind" := p2_0.wr W10
      have f10_1 : Exa Z h10 pA "[I" := f2_1.wr W10
      have f10_2 : Exa Z h10 kA "[I" := f2_2.wr W10
      have f10_7 : Fld Z h10 a "com/example/cellsight/cellsight/analysis/UnionFind" "parent" "[I" (.ref qP) := p2_1.other W10 (Or.inl (ne_exa p2_0 p2_4 (by decide)))
      have f10_8 : Fld Z h10 a "com/example/cellsight/cellsight/analysis/UnionFind" "rank" "[I" (.ref qK) := p2_2.other W10 (Or.inl (ne_exa p2_0 p2_4 (by decide)))
      have f10_9 : Exa Z h10 qP "[I" := p2_3.wr W10
      have f10_10 : Exa Z h10 qK "[I" := p2_4.wr W10
      have f10_11 : Ary Z h10 qP .int n2 (fun i => .int (pr2 i)) := p2_5.other W10 p2_10
      have sz10 : n0 ≤ h10.size := Nat.le_trans sz2 (Keep.of_wr W10).1
      have K10 : Keep h0 h10 [a, pA, kA] := K2.wr W10 (wm2)
      show Go p e below _ T10 (mkF m 58 #[.val (.ref a), .val (.int y1), .val (.int y2)] [])
      refine Go.st (T' := T10) (g' := (mkF m 59 #[.val (.ref a), .val (.int y1), .val (.int y2)] [(.ref a)])) (fun t_ k_ => XS.aloadN X10.here hx rfl (hb hby d5_58) rfl rfl k_) ?_
      refine goGet X10 hx hZ hown (host := "") (Or.inl (hw _ (List.mem_of_getElem? (i := 11) rfl))) Via.refl f10_7 (hb hby d5_59) fun T11 X11 => ?_
      show Go p e below _ T11 (mkF m 62 #[.val (.ref a), .val (.int y1), .val (.int y2)] [(.ref qP)])
      refine Go.st (T' := T11) (g' := (mkF m 63 #[.val (.ref a), .val (.int y1), .val (.int y2)] [(.int y2), (.ref qP)])) (fun t_ k_ => XS.iloadN X11.here hx rfl (hb hby d5_62) rfl k_) ?_
      refine Go.st (T' := T11) (g' := (mkF m 64 #[.val (.ref a), .val (.int y1), .val (.int y2)] [(.int y1), (.int y2), (.ref qP)])) (fun t_ k_ => XS.iloadN X11.here hx rfl (hb hby d5_63) rfl k_) ?_
      refine goStI X11 hx hZ (f := (fun i => (pr2 i))) f10_11 (j := y2) (own_inb hy2.1 hb12.2) p2_8 (hb hby d5_64) fun T12 h12 X12 W12 A12 => ?_
      have f12_0 : Exa Z h12 a "com/example/cellsight/cellsight/analysis/UnionFind" := f10_0.wr W12
      have f12_1 : Exa Z h12 pA "[I" := f10_1.wr W12
      have f12_2 : Exa Z h12 kA "[I" := f10_2.wr W12
      have f12_7 : Fld Z h12 a "com/example/cellsight/cellsight/analysis/UnionFind" "parent" "[I" (.ref qP) := f10_7.other W12 (Or.inl (ne_exa f10_0 f10_9 (by decide)))
      have f12_8 : Fld Z h12 a "com/example/cellsight/cellsight/analysis/UnionFind" "rank" "[I" (.ref qK) := f10_8.other W12 (Or.inl (ne_exa f10_0 f10_9 (by decide)))
      have f12_9 : Exa Z h12 qP "[I" := f10_9.wr W12
      have f12_10 : Exa Z h12 qK "[I" := f10_10.wr W12
      have f12_16 : Ary Z h12 qK .int n2 (fun i => .int (if i = (y1).toNatClampNeg then ((rk2 (y1).toNatClampNeg) + (1 : Int32)) else (fun i => (rk2 i)) i)) := A10.other W12 p2_10.symm
      have sz12 : n0 ≤ h12.size := Nat.le_trans sz10 (Keep.of_wr W12).1
      have K12 : Keep h0 h12 [a, pA, kA] := K10.wr W12 (wm1)
      show Go p e below _ T12 (mkF m 65 #[.val (.ref a), .val (.int y1), .val (.int y2)] [])
      refine Go.st (T' := T12) (g' := (mkF m 66 #[.val (.ref a), .val (.int y1), .val (.int y2)] [(.int y1)])) (fun t_ k_ => XS.iloadN X12.here hx rfl (hb hby d5_65) rfl k_) ?_
      refine goRetI X12 hx hlk hret (hb hby d5_66) (by decide) (by decide) ?_
      refine ⟨y1, qP, qK, n2, (fun i => (if i = (y2).toNatClampNeg then y1 else (fun i => (pr2 i)) i)), (fun i => (if i = (y1).toNatClampNeg then ((rk2 (y1).toNatClampNeg) + (1 : Int32)) else (fun i => (rk2 i)) i)), rfl, K12, f12_0, f12_7, f12_8, f12_9, f12_10, A12, f12_16, p2_7, p2_8, p2_9, p2_10, ?_, ?_, ?_⟩
      · exact own_lkc (own_link hSg hb12.2 hb12.1 hy1.1 (fun z => hne z.symm) e2 e1)
      · exact hg.1
      · exact Or.inl rfl
    · skip
      refine Go.st (T' := T8) (g' := (mkF m 58 #[.val (.ref a), .val (.int y1), .val (.int y2)] [])) (fun t_ k_ => XS.icmpYes X8.here hx rfl (pc0 := 45) (pc' := 58) rfl (hb hby d5_45) rfl (feq hc45).2 (by decide) (by decide) k_) ?_
      refine Go.st (T' := T8) (g' := (mkF m 59 #[.val (.ref a), .val (.int y1), .val (.int y2)] [(.ref a)])) (fun t_ k_ => XS.aloadN X8.here hx rfl (hb hby d5_58) rfl rfl k_) ?_
      refine goGet X8 hx hZ hown (host := "") (Or.inl (hw _ (List.mem_of_getElem? (i := 11) rfl))) Via.refl p2_1 (hb hby d5_59) fun T13 X13 => ?_
      show Go p e below _ T13 (mkF m 62 #[.val (.ref a), .val (.int y1), .val (.int y2)] [(.ref qP)])
      refine Go.st (T' := T13) (g' := (mkF m 63 #[.val (.ref a), .val (.int y1), .val (.int y2)] [(.int y2), (.ref qP)])) (fun t_ k_ => XS.iloadN X13.here hx rfl (hb hby d5_62) rfl k_) ?_
      refine Go.st (T' := T13) (g' := (mkF m 64 #[.val (.ref a), .val (.int y1), .val (.int y2)] [(.int y1), (.int y2), (.ref qP)])) (fun t_ k_ => XS.iloadN X13.here hx rfl (hb hby d5_63) rfl k_) ?_
      refine goStI X13 hx hZ (f := (fun i => (pr2 i))) p2_5 (j := y2) (own_inb hy2.1 hb12.2) p2_8 (hb hby d5_64) fun T14 h14 X14 W14 A14 => ?_
      have f14_0 : Exa Z h14 a "com/example/cellsight/cellsight/analysis/UnionFind" := p2_0.wr W14
      have f14_1 : Exa Z h14 pA "[I" := f2_1.wr W14
      have f14_2 : Exa Z h14 kA "[I" := f2_2.wr W14
      have f14_7 : Fld Z h14 a "com/example/cellsight/cellsight/analysis/UnionFind" "parent" "[I" (.ref qP) := p2_1.other W14 (Or.inl (ne_exa p2_0 p2_3 (by decide)))
      have f14_8 : Fld Z h14 a "com/example/cellsight/cellsight/analysis/UnionFind" "rank" "[I" (.ref qK) := p2_2.other W14 (Or.inl (ne_exa p2_0 p2_3 (by decide)))
      have f14_9 : Exa Z h14 qP "[I" := p2_3.wr W14
      have f14_10 : Exa Z h14 qK "[I" := p2_4.wr W14
      have f14_11 : Ary Z h14 qK .int n2 (fun i => .int (rk2 i)) := p2_6.other W14 p2_10.symm
      have sz14 : n0 ≤ h14.size := Nat.le_trans sz2 (Keep.of_wr W14).1
      have K14 : Keep h0 h14 [a, pA, kA] := K2.wr W14 (wm1)
      show Go p e below _ T14 (mkF m 65 #[.val (.ref a), .val (.int y1), .val (.int y2)] [])
      refine Go.st (T' := T14) (g' := (mkF m 66 #[.val (.ref a), .val (.int y1), .val (.int y2)] [(.int y1)])) (fun t_ k_ => XS.iloadN X14.here hx rfl (hb hby d5_65) rfl k_) ?_
      refine goRetI X14 hx hlk hret (hb hby d5_66) (by decide) (by decide) ?_
      refine ⟨y1, qP, qK, n2, (fun i => (if i = (y2).toNatClampNeg then y1 else (fun i => (pr2 i)) i)), rk2, rfl, K14, f14_0, f14_7, f14_8, f14_9, f14_10, A14, f14_11, p2_7, p2_8, p2_9, p2_10, ?_, ?_, ?_⟩
      · exact own_lkc (own_link hSg hb12.2 hb12.1 hy1.1 (fun z => hne z.symm) e2 e1)
      · exact hg.1
      · exact Or.inl rfl
theorem d4_0 : decode method_3_code 0 = .ok (.iload_n 0, 1) := by decide +kernel
theorem d4_1 : decode method_3_code 1 = .ok (.iload_n 1, 1) := by decide +kernel
theorem d4_2 : decode method_3_code 2 = .ok (.if_icmp .eq 13, 3) := by decide +kernel
theorem d4_5 : decode method_3_code 5 = .ok (.iload 5, 2) := by decide +kernel
theorem d4_7 : decode method_3_code 7 = .ok (.ifCond .eq 11, 3) := by decide +kernel
theorem d4_10 : decode method_3_code 10 = .ok (.iload_n 0, 1) := by decide +kernel
theorem d4_11 : decode method_3_code 11 = .ok (.iload_n 2, 1) := by decide +kernel
theorem d4_12 : decode method_3_code 12 = .ok (.if_icmp .ne 6, 3) := by decide +kernel
theorem d4_15 : decode method_3_code 15 = .ok (.iload 7, 2) := by decide +kernel
theorem d4_17 : decode method_3_code 17 = .ok (.ireturn, 1) := by decide +kernel
theorem d4_18 : decode method_3_code 18 = .ok (.iload_n 0, 1) := by decide +kernel
theorem d4_19 : decode method_3_code 19 = .ok (.iload_n 3, 1) := by decide +kernel
theorem d4_20 : decode method_3_code 20 = .ok (.if_icmp .eq 14, 3) := by decide +kernel
theorem d4_23 : decode method_3_code 23 = .ok (.iload 6, 2) := by decide +kernel
theorem d4_25 : decode method_3_code 25 = .ok (.ifCond .eq 12, 3) := by decide +kernel
theorem d4_28 : decode method_3_code 28 = .ok (.iload_n 0, 1) := by decide +kernel
theorem d4_29 : decode method_3_code 29 = .ok (.iload 4, 2) := by decide +kernel
theorem d4_31 : decode method_3_code 31 = .ok (.if_icmp .ne 6, 3) := by decide +kernel
theorem d4_34 : decode method_3_code 34 = .ok (.iload 8, 2) := by decide +kernel
theorem d4_36 : decode method_3_code 36 = .ok (.ireturn, 1) := by decide +kernel
theorem d4_37 : decode method_3_code 37 = .ok (.iload_n 0, 1) := by decide +kernel
theorem d4_38 : decode method_3_code 38 = .ok (.ireturn, 1) := by decide +kernel
theorem pn_4 : plainFor (⟨"com/example/cellsight/cellsight/analysis/UnionFindFindPinLaw", "expected", "(IIIIIZZII)I"⟩ : MethodName) = true := plainFor_of_name (by first | (simp [plainName, overriddenIn]; done) | decide +kernel)
theorem ef_rm4 (m : MethodId) (x0 : Int32) (x1 : Int32) (x2 : Int32) (x3 : Int32) (x4 : Int32) (x5 : Int32) (x6 : Int32) (x7 : Int32) (x8 : Int32) : entryFrame m #[(.int x0), (.int x1), (.int x2), (.int x3), (.int x4), (.int x5), (.int x6), (.int x7), (.int x8)] 9 = mkF m 0 #[.val (.int x0), .val (.int x1), .val (.int x2), .val (.int x3), .val (.int x4), .val (.int x5), .val (.int x6), .val (.int x7), .val (.int x8)] [] := by first | (simp [entryFrame, mkF, argsToLocals, Value.category]; done) | rfl
def Q4 (Z : State) (n0 : Nat) (h0 : Heap) (vv : Int32) (va : Int32) (vb : Int32) (vc : Int32) (vd : Int32) (f1 : Int32) (f2 : Int32) (rA : Int32) (rC : Int32) (v : Option Value) (h : Heap) : Prop := ∃ (r : Int32), v = some (.int r) ∧ h = h0 ∧ (r = own_exp vv va vb vc vd f1 f2 rA rC)
set_option maxRecDepth 65536 in
set_option maxHeartbeats 40000000 in
theorem rm4 (l : Launch) (Z : State) (a0 : Array Value) (hw : ∀ d ∈ tables_1, d.before a0 Z = true) (ws : List Jvm.Cond) (n0 : Nat) (h0 : Heap) (vv : Int32) (va : Int32) (vb : Int32) (vc : Int32) (vd : Int32) (f1 : Int32) (f2 : Int32) (rA : Int32) (rC : Int32) (sz0 : n0 ≤ h0.size) :
    Con l (⟨"com/example/cellsight/cellsight/analysis/UnionFindFindPinLaw", "expected", "(IIIIIZZII)I"⟩ : MethodName) method_3_code 9 (some .int) ({ frames := 0, cells := 0, slots := 0, locals := 0 } : Room) ws Z n0 #[(.int vv), (.int va), (.int vb), (.int vc), (.int vd), (.int f1), (.int f2), (.int rA), (.int rC)] h0 (Q4 Z n0 h0 vv va vb vc vd f1 f2 rA rC) := by
  refine Con.body pn_4 ?_
  intro p e s m below meth c s₁ hx hby hml hown hnm hret hlk hZ X0
  have hown : s.vm.findClass "com/example/cellsight/cellsight/analysis/UnionFindFindPinLaw" = some m.cls := hown
  have hnm : meth.name = "expected" := hnm
  rw [show entryFrame m #[(.int vv), (.int va), (.int vb), (.int vc), (.int vd), (.int f1), (.int f2), (.int rA), (.int rC)] 9 = mkF m 0 #[.val (.int vv), .val (.int va), .val (.int vb), .val (.int vc), .val (.int vd), .val (.int f1), .val (.int f2), .val (.int rA), .val (.int rC)] [] from ef_rm4 m vv va vb vc vd f1 f2 rA rC]
  show Go p e below (PostW s n0 (0 : Nat) (0 : Nat) (Q4 Z n0 h0 vv va vb vc vd f1 f2 rA rC)) s₁ (mkF m 0 #[.val (.int vv), .val (.int va), .val (.int vb), .val (.int vc), .val (.int vd), .val (.int f1), .val (.int f2), .val (.int rA), .val (.int rC)] [])
  refine Go.st (T' := s₁) (g' := (mkF m 1 #[.val (.int vv), .val (.int va), .val (.int vb), .val (.int vc), .val (.int vd), .val (.int f1), .val (.int f2), .val (.int rA), .val (.int rC)] [(.int vv)])) (fun t_ k_ => XS.iloadN X0.here hx rfl (hb hby d4_0) rfl k_) ?_
  refine Go.st (T' := s₁) (g' := (mkF m 2 #[.val (.int vv), .val (.int va), .val (.int vb), .val (.int vc), .val (.int vd), .val (.int f1), .val (.int f2), .val (.int rA), .val (.int rC)] [(.int va), (.int vv)])) (fun t_ k_ => XS.iloadN X0.here hx rfl (hb hby d4_1) rfl k_) ?_
  by_cases hc2 : vv = va
  · skip
    refine Go.st (T' := s₁) (g' := (mkF m 15 #[.val (.int vv), .val (.int va), .val (.int vb), .val (.int vc), .val (.int vd), .val (.int f1), .val (.int f2), .val (.int rA), .val (.int rC)] [])) (fun t_ k_ => XS.icmpYes X0.here hx rfl (pc0 := 2) (pc' := 15) rfl (hb hby d4_2) rfl (teq hc2).1 (by decide) (by decide) k_) ?_
    refine Go.st (T' := s₁) (g' := (mkF m 17 #[.val (.int vv), .val (.int va), .val (.int vb), .val (.int vc), .val (.int vd), .val (.int f1), .val (.int f2), .val (.int rA), .val (.int rC)] [(.int rA)])) (fun t_ k_ => XS.iload X0.here hx rfl (hb hby d4_15) rfl k_) ?_
    refine goRetI X0 hx hlk hret (hb hby d4_17) (by decide) (by decide) ?_
    refine ⟨rA, rfl, rfl, ?_⟩
    · unfold own_exp; first | rw [if_pos (Or.inl hc2)] | rw [if_pos (Or.inr ⟨hc7, hc12⟩)]
  · skip
    refine Go.st (T' := s₁) (g' := (mkF m 5 #[.val (.int vv), .val (.int va), .val (.int vb), .val (.int vc), .val (.int vd), .val (.int f1), .val (.int f2), .val (.int rA), .val (.int rC)] [])) (fun t_ k_ => XS.icmpNo X0.here hx rfl (hb hby d4_2) rfl (feq hc2).1 k_) ?_
    refine Go.st (T' := s₁) (g' := (mkF m 7 #[.val (.int vv), .val (.int va), .val (.int vb), .val (.int vc), .val (.int vd), .val (.int f1), .val (.int f2), .val (.int rA), .val (.int rC)] [(.int f1)])) (fun t_ k_ => XS.iload X0.here hx rfl (hb hby d4_5) rfl k_) ?_
    by_cases hc7 : f1 = (0 : Int32)
    · skip
      refine Go.st (T' := s₁) (g' := (mkF m 18 #[.val (.int vv), .val (.int va), .val (.int vb), .val (.int vc), .val (.int vd), .val (.int f1), .val (.int f2), .val (.int rA), .val (.int rC)] [])) (fun t_ k_ => XS.ifYes X0.here hx rfl (pc0 := 7) (pc' := 18) rfl (hb hby d4_7) rfl ((if0 _ _).trans (teq hc7).1) (by decide) (by decide) k_) ?_
      refine Go.st (T' := s₁) (g' := (mkF m 19 #[.val (.int vv), .val (.int va), .val (.int vb), .val (.int vc), .val (.int vd), .val (.int f1), .val (.int f2), .val (.int rA), .val (.int rC)] [(.int vv)])) (fun t_ k_ => XS.iloadN X0.here hx rfl (hb hby d4_18) rfl k_) ?_
      refine Go.st (T' := s₁) (g' := (mkF m 20 #[.val (.int vv), .val (.int va), .val (.int vb), .val (.int vc), .val (.int vd), .val (.int f1), .val (.int f2), .val (.int rA), .val (.int rC)] [(.int vc), (.int vv)])) (fun t_ k_ => XS.iloadN X0.here hx rfl (hb hby d4_19) rfl k_) ?_
      by_cases hc20 : vv = vc
      · skip
        refine Go.st (T' := s₁) (g' := (mkF m 34 #[.val (.int vv), .val (.int va), .val (.int vb), .val (.int vc), .val (.int vd), .val (.int f1), .val (.int f2), .val (.int rA), .val (.int rC)] [])) (fun t_ k_ => XS.icmpYes X0.here hx rfl (pc0 := 20) (pc' := 34) rfl (hb hby d4_20) rfl (teq hc20).1 (by decide) (by decide) k_) ?_
        refine Go.st (T' := s₁) (g' := (mkF m 36 #[.val (.int vv), .val (.int va), .val (.int vb), .val (.int vc), .val (.int vd), .val (.int f1), .val (.int f2), .val (.int rA), .val (.int rC)] [(.int rC)])) (fun t_ k_ => XS.iload X0.here hx rfl (hb hby d4_34) rfl k_) ?_
        refine goRetI X0 hx hlk hret (hb hby d4_36) (by decide) (by decide) ?_
        refine ⟨rC, rfl, rfl, ?_⟩
        · unfold own_exp; first | rw [if_neg (fun z => z.elim hc2 (fun y => by first | exact y.1 hc7 | exact hc12 y.2)), if_pos (Or.inl hc20)] | rw [if_neg (fun z => z.elim hc2 (fun y => by first | exact y.1 hc7 | exact hc12 y.2)), if_pos (Or.inr ⟨hc25, hc31⟩)]
      · skip
        refine Go.st (T' := s₁) (g' := (mkF m 23 #[.val (.int vv), .val (.int va), .val (.int vb), .val (.int vc), .val (.int vd), .val (.int f1), .val (.int f2), .val (.int rA), .val (.int rC)] [])) (fun t_ k_ => XS.icmpNo X0.here hx rfl (hb hby d4_20) rfl (feq hc20).1 k_) ?_
        refine Go.st (T' := s₁) (g' := (mkF m 25 #[.val (.int vv), .val (.int va), .val (.int vb), .val (.int vc), .val (.int vd), .val (.int f1), .val (.int f2), .val (.int rA), .val (.int rC)] [(.int f2)])) (fun t_ k_ => XS.iload X0.here hx rfl (hb hby d4_23) rfl k_) ?_
        by_cases hc25 : f2 = (0 : Int32)
        · skip
          refine Go.st (T' := s₁) (g' := (mkF m 37 #[.val (.int vv), .val (.int va), .val (.int vb), .val (.int vc), .val (.int vd), .val (.int f1), .val (.int f2), .val (.int rA), .val (.int rC)] [])) (fun t_ k_ => XS.ifYes X0.here hx rfl (pc0 := 25) (pc' := 37) rfl (hb hby d4_25) rfl ((if0 _ _).trans (teq hc25).1) (by decide) (by decide) k_) ?_
          refine Go.st (T' := s₁) (g' := (mkF m 38 #[.val (.int vv), .val (.int va), .val (.int vb), .val (.int vc), .val (.int vd), .val (.int f1), .val (.int f2), .val (.int rA), .val (.int rC)] [(.int vv)])) (fun t_ k_ => XS.iloadN X0.here hx rfl (hb hby d4_37) rfl k_) ?_
          refine goRetI X0 hx hlk hret (hb hby d4_38) (by decide) (by decide) ?_
          refine ⟨vv, rfl, rfl, ?_⟩
          · unfold own_exp; rw [if_neg (fun z => z.elim hc2 (fun y => by first | exact y.1 hc7 | exact hc12 y.2)), if_neg (fun z => z.elim hc20 (fun y => by first | exact y.1 hc25 | exact hc31 y.2))]
        · skip
          refine Go.st (T' := s₁) (g' := (mkF m 28 #[.val (.int vv), .val (.int va), .val (.int vb), .val (.int vc), .val (.int vd), .val (.int f1), .val (.int f2), .val (.int rA), .val (.int rC)] [])) (fun t_ k_ => XS.ifNo X0.here hx rfl (hb hby d4_25) rfl ((if0 _ _).trans (feq hc25).1) k_) ?_
          refine Go.st (T' := s₁) (g' := (mkF m 29 #[.val (.int vv), .val (.int va), .val (.int vb), .val (.int vc), .val (.int vd), .val (.int f1), .val (.int f2), .val (.int rA), .val (.int rC)] [(.int vv)])) (fun t_ k_ => XS.iloadN X0.here hx rfl (hb hby d4_28) rfl k_) ?_
          refine Go.st (T' := s₁) (g' := (mkF m 31 #[.val (.int vv), .val (.int va), .val (.int vb), .val (.int vc), .val (.int vd), .val (.int f1), .val (.int f2), .val (.int rA), .val (.int rC)] [(.int vd), (.int vv)])) (fun t_ k_ => XS.iload X0.here hx rfl (hb hby d4_29) rfl k_) ?_
          by_cases hc31 : vv = vd
          · skip
            refine Go.st (T' := s₁) (g' := (mkF m 34 #[.val (.int vv), .val (.int va), .val (.int vb), .val (.int vc), .val (.int vd), .val (.int f1), .val (.int f2), .val (.int rA), .val (.int rC)] [])) (fun t_ k_ => XS.icmpNo X0.here hx rfl (hb hby d4_31) rfl (teq hc31).2 k_) ?_
            refine Go.st (T' := s₁) (g' := (mkF m 36 #[.val (.int vv), .val (.int va), .val (.int vb), .val (.int vc), .val (.int vd), .val (.int f1), .val (.int f2), .val (.int rA), .val (.int rC)] [(.int rC)])) (fun t_ k_ => XS.iload X0.here hx rfl (hb hby d4_34) rfl k_) ?_
            refine goRetI X0 hx hlk hret (hb hby d4_36) (by decide) (by decide) ?_
            refine ⟨rC, rfl, rfl, ?_⟩
            · unfold own_exp; first | rw [if_neg (fun z => z.elim hc2 (fun y => by first | exact y.1 hc7 | exact hc12 y.2)), if_pos (Or.inl hc20)] | rw [if_neg (fun z => z.elim hc2 (fun y => by first | exact y.1 hc7 | exact hc12 y.2)), if_pos (Or.inr ⟨hc25, hc31⟩)]
          · skip
            refine Go.st (T' := s₁) (g' := (mkF m 37 #[.val (.int vv), .val (.int va), .val (.int vb), .val (.int vc), .val (.int vd), .val (.int f1), .val (.int f2), .val (.int rA), .val (.int rC)] [])) (fun t_ k_ => XS.icmpYes X0.here hx rfl (pc0 := 31) (pc' := 37) rfl (hb hby d4_31) rfl (feq hc31).2 (by decide) (by decide) k_) ?_
            refine Go.st (T' := s₁) (g' := (mkF m 38 #[.val (.int vv), .val (.int va), .val (.int vb), .val (.int vc), .val (.int vd), .val (.int f1), .val (.int f2), .val (.int rA), .val (.int rC)] [(.int vv)])) (fun t_ k_ => XS.iloadN X0.here hx rfl (hb hby d4_37) rfl k_) ?_
            refine goRetI X0 hx hlk hret (hb hby d4_38) (by decide) (by decide) ?_
            refine ⟨vv, rfl, rfl, ?_⟩
            · unfold own_exp; rw [if_neg (fun z => z.elim hc2 (fun y => by first | exact y.1 hc7 | exact hc12 y.2)), if_neg (fun z => z.elim hc20 (fun y => by first | exact y.1 hc25 | exact hc31 y.2))]
    · skip
      refine Go.st (T' := s₁) (g' := (mkF m 10 #[.val (.int vv), .val (.int va), .val (.int vb), .val (.int vc), .val (.int vd), .val (.int f1), .val (.int f2), .val (.int rA), .val (.int rC)] [])) (fun t_ k_ => XS.ifNo X0.here hx rfl (hb hby d4_7) rfl ((if0 _ _).trans (feq hc7).1) k_) ?_
      refine Go.st (T' := s₁) (g' := (mkF m 11 #[.val (.int vv), .val (.int va), .val (.int vb), .val (.int vc), .val (.int vd), .val (.int f1), .val (.int f2), .val (.int rA), .val (.int rC)] [(.int vv)])) (fun t_ k_ => XS.iloadN X0.here hx rfl (hb hby d4_10) rfl k_) ?_
      refine Go.st (T' := s₁) (g' := (mkF m 12 #[.val (.int vv), .val (.int va), .val (.int vb), .val (.int vc), .val (.int vd), .val (.int f1), .val (.int f2), .val (.int rA), .val (.int rC)] [(.int vb), (.int vv)])) (fun t_ k_ => XS.iloadN X0.here hx rfl (hb hby d4_11) rfl k_) ?_
      by_cases hc12 : vv = vb
      · skip
        refine Go.st (T' := s₁) (g' := (mkF m 15 #[.val (.int vv), .val (.int va), .val (.int vb), .val (.int vc), .val (.int vd), .val (.int f1), .val (.int f2), .val (.int rA), .val (.int rC)] [])) (fun t_ k_ => XS.icmpNo X0.here hx rfl (hb hby d4_12) rfl (teq hc12).2 k_) ?_
        refine Go.st (T' := s₁) (g' := (mkF m 17 #[.val (.int vv), .val (.int va), .val (.int vb), .val (.int vc), .val (.int vd), .val (.int f1), .val (.int f2), .val (.int rA), .val (.int rC)] [(.int rA)])) (fun t_ k_ => XS.iload X0.here hx rfl (hb hby d4_15) rfl k_) ?_
        refine goRetI X0 hx hlk hret (hb hby d4_17) (by decide) (by decide) ?_
        refine ⟨rA, rfl, rfl, ?_⟩
        · unfold own_exp; first | rw [if_pos (Or.inl hc2)] | rw [if_pos (Or.inr ⟨hc7, hc12⟩)]
      · skip
        refine Go.st (T' := s₁) (g' := (mkF m 18 #[.val (.int vv), .val (.int va), .val (.int vb), .val (.int vc), .val (.int vd), .val (.int f1), .val (.int f2), .val (.int rA), .val (.int rC)] [])) (fun t_ k_ => XS.icmpYes X0.here hx rfl (pc0 := 12) (pc' := 18) rfl (hb hby d4_12) rfl (feq hc12).2 (by decide) (by decide) k_) ?_
        refine Go.st (T' := s₁) (g' := (mkF m 19 #[.val (.int vv), .val (.int va), .val (.int vb), .val (.int vc), .val (.int vd), .val (.int f1), .val (.int f2), .val (.int rA), .val (.int rC)] [(.int vv)])) (fun t_ k_ => XS.iloadN X0.here hx rfl (hb hby d4_18) rfl k_) ?_
        refine Go.st (T' := s₁) (g' := (mkF m 20 #[.val (.int vv), .val (.int va), .val (.int vb), .val (.int vc), .val (.int vd), .val (.int f1), .val (.int f2), .val (.int rA), .val (.int rC)] [(.int vc), (.int vv)])) (fun t_ k_ => XS.iloadN X0.here hx rfl (hb hby d4_19) rfl k_) ?_
        by_cases hc20 : vv = vc
        · skip
          refine Go.st (T' := s₁) (g' := (mkF m 34 #[.val (.int vv), .val (.int va), .val (.int vb), .val (.int vc), .val (.int vd), .val (.int f1), .val (.int f2), .val (.int rA), .val (.int rC)] [])) (fun t_ k_ => XS.icmpYes X0.here hx rfl (pc0 := 20) (pc' := 34) rfl (hb hby d4_20) rfl (teq hc20).1 (by decide) (by decide) k_) ?_
          refine Go.st (T' := s₁) (g' := (mkF m 36 #[.val (.int vv), .val (.int va), .val (.int vb), .val (.int vc), .val (.int vd), .val (.int f1), .val (.int f2), .val (.int rA), .val (.int rC)] [(.int rC)])) (fun t_ k_ => XS.iload X0.here hx rfl (hb hby d4_34) rfl k_) ?_
          refine goRetI X0 hx hlk hret (hb hby d4_36) (by decide) (by decide) ?_
          refine ⟨rC, rfl, rfl, ?_⟩
          · unfold own_exp; first | rw [if_neg (fun z => z.elim hc2 (fun y => by first | exact y.1 hc7 | exact hc12 y.2)), if_pos (Or.inl hc20)] | rw [if_neg (fun z => z.elim hc2 (fun y => by first | exact y.1 hc7 | exact hc12 y.2)), if_pos (Or.inr ⟨hc25, hc31⟩)]
        · skip
          refine Go.st (T' := s₁) (g' := (mkF m 23 #[.val (.int vv), .val (.int va), .val (.int vb), .val (.int vc), .val (.int vd), .val (.int f1), .val (.int f2), .val (.int rA), .val (.int rC)] [])) (fun t_ k_ => XS.icmpNo X0.here hx rfl (hb hby d4_20) rfl (feq hc20).1 k_) ?_
          refine Go.st (T' := s₁) (g' := (mkF m 25 #[.val (.int vv), .val (.int va), .val (.int vb), .val (.int vc), .val (.int vd), .val (.int f1), .val (.int f2), .val (.int rA), .val (.int rC)] [(.int f2)])) (fun t_ k_ => XS.iload X0.here hx rfl (hb hby d4_23) rfl k_) ?_
          by_cases hc25 : f2 = (0 : Int32)
          · skip
            refine Go.st (T' := s₁) (g' := (mkF m 37 #[.val (.int vv), .val (.int va), .val (.int vb), .val (.int vc), .val (.int vd), .val (.int f1), .val (.int f2), .val (.int rA), .val (.int rC)] [])) (fun t_ k_ => XS.ifYes X0.here hx rfl (pc0 := 25) (pc' := 37) rfl (hb hby d4_25) rfl ((if0 _ _).trans (teq hc25).1) (by decide) (by decide) k_) ?_
            refine Go.st (T' := s₁) (g' := (mkF m 38 #[.val (.int vv), .val (.int va), .val (.int vb), .val (.int vc), .val (.int vd), .val (.int f1), .val (.int f2), .val (.int rA), .val (.int rC)] [(.int vv)])) (fun t_ k_ => XS.iloadN X0.here hx rfl (hb hby d4_37) rfl k_) ?_
            refine goRetI X0 hx hlk hret (hb hby d4_38) (by decide) (by decide) ?_
            refine ⟨vv, rfl, rfl, ?_⟩
            · unfold own_exp; rw [if_neg (fun z => z.elim hc2 (fun y => by first | exact y.1 hc7 | exact hc12 y.2)), if_neg (fun z => z.elim hc20 (fun y => by first | exact y.1 hc25 | exact hc31 y.2))]
          · skip
            refine Go.st (T' := s₁) (g' := (mkF m 28 #[.val (.int vv), .val (.int va), .val (.int vb), .val (.int vc), .val (.int vd), .val (.int f1), .val (.int f2), .val (.int rA), .val (.int rC)] [])) (fun t_ k_ => XS.ifNo X0.here hx rfl (hb hby d4_25) rfl ((if0 _ _).trans (feq hc25).1) k_) ?_
            refine Go.st (T' := s₁) (g' := (mkF m 29 #[.val (.int vv), .val (.int va), .val (.int vb), .val (.int vc), .val (.int vd), .val (.int f1), .val (.int f2), .val (.int rA), .val (.int rC)] [(.int vv)])) (fun t_ k_ => XS.iloadN X0.here hx rfl (hb hby d4_28) rfl k_) ?_
            refine Go.st (T' := s₁) (g' := (mkF m 31 #[.val (.int vv), .val (.int va), .val (.int vb), .val (.int vc), .val (.int vd), .val (.int f1), .val (.int f2), .val (.int rA), .val (.int rC)] [(.int vd), (.int vv)])) (fun t_ k_ => XS.iload X0.here hx rfl (hb hby d4_29) rfl k_) ?_
            by_cases hc31 : vv = vd
            · skip
              refine Go.st (T' := s₁) (g' := (mkF m 34 #[.val (.int vv), .val (.int va), .val (.int vb), .val (.int vc), .val (.int vd), .val (.int f1), .val (.int f2), .val (.int rA), .val (.int rC)] [])) (fun t_ k_ => XS.icmpNo X0.here hx rfl (hb hby d4_31) rfl (teq hc31).2 k_) ?_
              refine Go.st (T' := s₁) (g' := (mkF m 36 #[.val (.int vv), .val (.int va), .val (.int vb), .val (.int vc), .val (.int vd), .val (.int f1), .val (.int f2), .val (.int rA), .val (.int rC)] [(.int rC)])) (fun t_ k_ => XS.iload X0.here hx rfl (hb hby d4_34) rfl k_) ?_
              refine goRetI X0 hx hlk hret (hb hby d4_36) (by decide) (by decide) ?_
              refine ⟨rC, rfl, rfl, ?_⟩
              · unfold own_exp; first | rw [if_neg (fun z => z.elim hc2 (fun y => by first | exact y.1 hc7 | exact hc12 y.2)), if_pos (Or.inl hc20)] | rw [if_neg (fun z => z.elim hc2 (fun y => by first | exact y.1 hc7 | exact hc12 y.2)), if_pos (Or.inr ⟨hc25, hc31⟩)]
            · skip
              refine Go.st (T' := s₁) (g' := (mkF m 37 #[.val (.int vv), .val (.int va), .val (.int vb), .val (.int vc), .val (.int vd), .val (.int f1), .val (.int f2), .val (.int rA), .val (.int rC)] [])) (fun t_ k_ => XS.icmpYes X0.here hx rfl (pc0 := 31) (pc' := 37) rfl (hb hby d4_31) rfl (feq hc31).2 (by decide) (by decide) k_) ?_
              refine Go.st (T' := s₁) (g' := (mkF m 38 #[.val (.int vv), .val (.int va), .val (.int vb), .val (.int vc), .val (.int vd), .val (.int f1), .val (.int f2), .val (.int rA), .val (.int rC)] [(.int vv)])) (fun t_ k_ => XS.iloadN X0.here hx rfl (hb hby d4_37) rfl k_) ?_
              refine goRetI X0 hx hlk hret (hb hby d4_38) (by decide) (by decide) ?_
              refine ⟨vv, rfl, rfl, ?_⟩
              · unfold own_exp; rw [if_neg (fun z => z.elim hc2 (fun y => by first | exact y.1 hc7 | exact hc12 y.2)), if_neg (fun z => z.elim hc20 (fun y => by first | exact y.1 hc25 | exact hc31 y.2))]

theorem own_m7 (u w : Int32) (hw : 0 ≤ w.toInt ∧ w.toInt ≤ 24) : ¬ (w + (u &&& (7 : Int32))) < 0 ∧ w.toInt ≤ ((w + (u &&& (7 : Int32))).toNatClampNeg : Int) ∧ ((w + (u &&& (7 : Int32))).toNatClampNeg : Int) ≤ w.toInt + 7 := by
  have h := Jvm.Kit.i32_mask u 7 (k := 3) (by decide) (by decide)
  have e : (w + (u &&& (7 : Int32))).toInt = w.toInt + (u &&& (7 : Int32)).toInt := Jvm.Kit.i32_add (by omega) (by omega)
  have h0 : ¬ (w + (u &&& (7 : Int32))) < 0 := by rw [Int32.lt_iff_toInt_lt, e]; simp; omega
  have := nat_of h0
  exact ⟨h0, by omega, by omega⟩
theorem own_m7' (u : Int32) : ¬ (u &&& (7 : Int32)) < 0 ∧ (u &&& (7 : Int32)).toNatClampNeg ≤ 7 := by
  have h := own_m7 u 0 (by decide)
  have e : (0 : Int32) + (u &&& (7 : Int32)) = (u &&& (7 : Int32)) := by simp
  rw [e] at h
  simp only [Int32.reduceToInt] at h
  exact ⟨h.1, by omega⟩
theorem own_mk (u w : Int32) {k : Nat} (hk : k < 32) (hw : w.toBitVec.toNat = 2 ^ k - 1) : ¬ (u &&& w) < 0 := by
  rw [Int32.lt_iff_toInt_lt, Jvm.Kit.i32_mask u w hk hw]
  have h1 := Nat.two_pow_pos k
  have h2 : (2 : Int) ^ k = ((2 ^ k : Nat) : Int) := by simp
  have : (0 : Int) ≤ u.toInt % 2 ^ k := Int.emod_nonneg _ (by rw [h2]; omega)
  simpa using this
/-- where the four numbers lie -/
def own_4 (va vb vc vd : Int32) : Prop := (¬ va < 0 ∧ va.toNatClampNeg ≤ 7) ∧ (¬ vb < 0 ∧ 8 ≤ vb.toNatClampNeg ∧ vb.toNatClampNeg ≤ 15) ∧ (¬ vc < 0 ∧ 16 ≤ vc.toNatClampNeg ∧ vc.toNatClampNeg ≤ 23) ∧ (¬ vd < 0 ∧ 24 ≤ vd.toNatClampNeg ∧ vd.toNatClampNeg ≤ 31)
theorem own_S0 {f : Nat → Int32} : own_S 0 f (fun v => v) := ⟨fun _ _ => rfl, fun _ => 0, fun v hv => absurd hv (Nat.not_lt_zero v)⟩
theorem own_i1 {va vb vc vd f1 : Int32} (hf : f1 = 0) (v : Nat) : v = own_R va vb vc vd f1 0 va vc v := by
  unfold own_R
  by_cases c1 : v = va.toNatClampNeg
  · simp [c1]
  · by_cases c2 : v = vc.toNatClampNeg
    · simp [hf, c2]
    · simp [hf, c1, c2]
theorem own_c1 {va vb vc vd f1 y1 y2 r : Int32} (h : own_4 va vb vc vd) (hf : ¬ f1 = 0) (hy : (y1 = va ∧ y2 = vb) ∨ (y1 = vb ∧ y2 = va)) (v : Nat) : own_lk (fun v => v) y1.toNatClampNeg y2.toNatClampNeg r.toNatClampNeg v = own_R va vb vc vd f1 0 r vc v := by
  obtain ⟨h1, h2, h3, h4⟩ := h
  unfold own_lk own_R
  have q : (v = y1.toNatClampNeg ∨ v = y2.toNatClampNeg) ↔ (v = va.toNatClampNeg ∨ (¬ f1 = 0 ∧ v = vb.toNatClampNeg)) := by
    rcases hy with ⟨rfl, rfl⟩ | ⟨rfl, rfl⟩
    · simp [hf]
    · simp [hf, or_comm]
  simp only [q]
  split
  · rfl
  · split
    · rename_i c2
      rcases c2 with c2 | ⟨c2, -⟩
      · exact c2
      · first | exact absurd rfl c2 | exact absurd trivial c2
    · rfl
theorem own_c2 {va vb vc vd f1 f2 r1 y1 y2 r : Int32} (h : own_4 va vb vc vd) (hr1 : r1 = va ∨ r1 = vb) (hf : ¬ f2 = 0) (hy : (y1 = vc ∧ y2 = vd) ∨ (y1 = vd ∧ y2 = vc)) (v : Nat) : own_lk (own_R va vb vc vd f1 0 r1 vc) y1.toNatClampNeg y2.toNatClampNeg r.toNatClampNeg v = own_R va vb vc vd f1 f2 r1 r v := by
  obtain ⟨h1, h2, h3, h4⟩ := h
  have hr : r1.toNatClampNeg ≤ 15 := by rcases hr1 with rfl | rfl <;> omega
  have q : ∀ w : Nat, (w = y1.toNatClampNeg ∨ w = y2.toNatClampNeg) ↔ (w = vc.toNatClampNeg ∨ (¬ f2 = 0 ∧ w = vd.toNatClampNeg)) := fun w => by
    rcases hy with ⟨rfl, rfl⟩ | ⟨rfl, rfl⟩
    · simp [hf]
    · simp [hf, or_comm]
  unfold own_lk
  simp only [q]
  unfold own_R
  by_cases c1 : (v = va.toNatClampNeg ∨ (¬ f1 = 0 ∧ v = vb.toNatClampNeg))
  · simp only [if_pos c1]
    rw [if_neg (by omega)]
  · simp only [if_neg c1]
    by_cases c2 : v = vc.toNatClampNeg
    · subst c2; simp
    · simp [c2]
theorem own_c3 {va vb vc vd f1 f2 r1 r2 y1 y2 r : Int32} (h : own_4 va vb vc vd) (hr1 : r1 = va ∨ r1 = vb) (hf1 : f1 = 0 → r1 = va) (hr2 : r2 = vc ∨ r2 = vd) (hf2 : f2 = 0 → r2 = vc) (hy : (y1 = r1 ∧ y2 = r2) ∨ (y1 = r2 ∧ y2 = r1)) (v : Nat) : own_lk (own_R va vb vc vd f1 f2 r1 r2) y1.toNatClampNeg y2.toNatClampNeg r.toNatClampNeg v = own_R va vb vc vd f1 f2 r r v := by
  obtain ⟨h1, h2, h3, h4⟩ := h
  have q : ∀ w : Nat, (w = y1.toNatClampNeg ∨ w = y2.toNatClampNeg) ↔ (w = r1.toNatClampNeg ∨ w = r2.toNatClampNeg) := fun w => by
    rcases hy with ⟨rfl, rfl⟩ | ⟨rfl, rfl⟩
    · rfl
    · exact or_comm
  unfold own_lk
  simp only [q]
  unfold own_R
  by_cases c1 : (v = va.toNatClampNeg ∨ (¬ f1 = 0 ∧ v = vb.toNatClampNeg))
  · simp [c1]
  · simp only [if_neg c1]
    by_cases c2 : (v = vc.toNatClampNeg ∨ (¬ f2 = 0 ∧ v = vd.toNatClampNeg))
    · simp [c2]
    · simp only [if_neg c2]
      rw [if_neg]
      rintro (z | z)
      · rcases hr1 with rfl | rfl
        · exact c1 (Or.inl z)
        · by_cases g : f1 = 0
          · have := congrArg Int32.toNatClampNeg (hf1 g); omega
          · exact c1 (Or.inr ⟨g, z⟩)
      · rcases hr2 with rfl | rfl
        · exact c2 (Or.inl z)
        · by_cases g : f2 = 0
          · have := congrArg Int32.toNatClampNeg (hf2 g); omega
          · exact c2 (Or.inr ⟨g, z⟩)
theorem own_e2 {va vb vc vd f1 r1 : Int32} (h : own_4 va vb vc vd) : own_R va vb vc vd f1 0 r1 vc vc.toNatClampNeg = vc.toNatClampNeg ∧ own_R va vb vc vd f1 0 r1 vc vd.toNatClampNeg = vd.toNatClampNeg := by
  obtain ⟨h1, h2, h3, h4⟩ := h
  unfold own_R
  refine ⟨?_, ?_⟩
  · rw [if_neg (by omega)]; simp
  · rw [if_neg (by omega), if_neg (by rintro (z | ⟨z, -⟩); omega; exact z rfl)]
theorem own_e3 {va vb vc vd f1 f2 r1 r2 : Int32} (h : own_4 va vb vc vd) (hr1 : r1 = va ∨ r1 = vb) (hf1 : f1 = 0 → r1 = va) (hr2 : r2 = vc ∨ r2 = vd) (hf2 : f2 = 0 → r2 = vc) : own_R va vb vc vd f1 f2 r1 r2 r1.toNatClampNeg = r1.toNatClampNeg ∧ own_R va vb vc vd f1 f2 r1 r2 r2.toNatClampNeg = r2.toNatClampNeg ∧ r1.toNatClampNeg ≠ r2.toNatClampNeg := by
  obtain ⟨h1, h2, h3, h4⟩ := h
  unfold own_R
  refine ⟨?_, ?_, ?_⟩
  · rw [if_pos]
    rcases hr1 with rfl | rfl
    · exact Or.inl rfl
    · by_cases g : f1 = 0
      · have := congrArg Int32.toNatClampNeg (hf1 g); omega
      · exact Or.inr ⟨g, rfl⟩
  · rw [if_neg (by rcases hr2 with rfl | rfl <;> omega), if_pos]
    rcases hr2 with rfl | rfl
    · exact Or.inl rfl
    · by_cases g : f2 = 0
      · have := congrArg Int32.toNatClampNeg (hf2 g); omega
      · exact Or.inr ⟨g, rfl⟩
  · rcases hr1 with rfl | rfl <;> rcases hr2 with rfl | rfl <;> omega
theorem own_rg1 {va vb vc vd r1 : Int32} (h : own_4 va vb vc vd) (hr1 : r1 = va ∨ r1 = vb) : ¬ r1 < 0 ∧ r1.toNatClampNeg ≤ 31 := by
  obtain ⟨h1, h2, h3, h4⟩ := h
  rcases hr1 with rfl | rfl
  · exact ⟨h1.1, by omega⟩
  · exact ⟨h2.1, by omega⟩
theorem own_rg2 {va vb vc vd r2 : Int32} (h : own_4 va vb vc vd) (hr2 : r2 = vc ∨ r2 = vd) : ¬ r2 < 0 ∧ r2.toNatClampNeg ≤ 31 := by
  obtain ⟨h1, h2, h3, h4⟩ := h
  rcases hr2 with rfl | rfl
  · exact ⟨h3.1, by omega⟩
  · exact ⟨h4.1, by omega⟩

theorem pn_0 : plainFor x = true := plainFor_of_name (by first | (simp [plainName, overriddenIn]; done) | decide +kernel)
theorem pd_0f51a560 : parseMethodDescriptor "()V" = some ⟨[], none⟩ := by decide +kernel
theorem pd_70cf885d : parseMethodDescriptor "(I)I" = some ⟨[.int], some .int⟩ := by decide +kernel
theorem pd_32950785 : parseMethodDescriptor "(IIIIIZZII)I" = some ⟨[.int, .int, .int, .int, .int, .boolean, .boolean, .int, .int], some .int⟩ := by decide +kernel
theorem ef_rm0 (m : MethodId) (x0 : Int32) (x1 : Int32) (x2 : Int32) : entryFrame m #[(.int x0), (.int x1), (.int x2)] maxLocals = mkF m 0 #[.val (.int x0), .val (.int x1), .val (.int x2), .unset, .unset, .unset, .unset, .unset, .unset, .unset, .unset, .unset, .unset, .unset, .unset, .unset, .unset, .unset, .unset, .unset, .unset, .unset, .unset, .unset, .unset] [] := by first | (simp [entryFrame, mkF, argsToLocals, Value.category, maxLocals]; done) | rfl
def Q0 (Z : State) (n0 : Nat) (h0 : Heap) (p1 : Int32) (p2 : Int32) (p3 : Int32) (v : Option Value) (h : Heap) : Prop := v = some (.int (1 : Int32))
set_option maxRecDepth 65536 in
set_option maxHeartbeats 40000000 in
theorem rm0 (l : Launch) (Z : State) (a0 : Array Value) (hw : ∀ d ∈ tables_1, d.before a0 Z = true) (ws : List Jvm.Cond) (n0 : Nat) (h0 : Heap) (p1 : Int32) (p2 : Int32) (p3 : Int32) (sz0 : n0 ≤ h0.size) :
    Con l x code maxLocals ret room_1 ws Z n0 #[(.int p1), (.int p2), (.int p3)] h0 (Q0 Z n0 h0 p1 p2 p3) := by
  refine Con.body pn_0 ?_
  intro p e s m below meth c s₁ hx hby hml hown hnm hret hlk hZ X0
  have hown : s.vm.findClass "com/example/cellsight/cellsight/analysis/UnionFindFindPinLaw" = some m.cls := hown
  have hnm : meth.name = "law" := hnm
  have hml : c.maxLocals = 25 := hml
  have hret : meth.sig.returnType = some .boolean := hret
  rw [show entryFrame m #[(.int p1), (.int p2), (.int p3)] maxLocals = mkF m 0 #[.val (.int p1), .val (.int p2), .val (.int p3), .unset, .unset, .unset, .unset, .unset, .unset, .unset, .unset, .unset, .unset, .unset, .unset, .unset, .unset, .unset, .unset, .unset, .unset, .unset, .unset, .unset, .unset] [] from ef_rm0 m p1 p2 p3]
  show Go p e below (PostW s n0 room_1.cells room_1.slots (Q0 Z n0 h0 p1 p2 p3)) s₁ (mkF m 0 #[.val (.int p1), .val (.int p2), .val (.int p3), .unset, .unset, .unset, .unset, .unset, .unset, .unset, .unset, .unset, .unset, .unset, .unset, .unset, .unset, .unset, .unset, .unset, .unset, .unset, .unset, .unset, .unset] [])
  refine Go.st (T' := s₁) (g' := (mkF m 1 #[.val (.int p1), .val (.int p2), .val (.int p3), .unset, .unset, .unset, .unset, .unset, .unset, .unset, .unset, .unset, .unset, .unset, .unset, .unset, .unset, .unset, .unset, .unset, .unset, .unset, .unset, .unset, .unset] [(.int p1)])) (fun t_ k_ => XS.iloadN X0.here hx rfl (hb hby at_0) rfl k_) ?_
  refine Go.st (T' := s₁) (g' := (mkF m 3 #[.val (.int p1), .val (.int p2), .val (.int p3), .unset, .unset, .unset, .unset, .unset, .unset, .unset, .unset, .unset, .unset, .unset, .unset, .unset, .unset, .unset, .unset, .unset, .unset, .unset, .unset, .unset, .unset] [(.int (7 : Int32)), (.int p1)])) (fun t_ k_ => XS.bipush X0.here hx rfl (hb hby at_1) k_) ?_
  refine Go.st (T' := s₁) (g' := (mkF m 4 #[.val (.int p1), .val (.int p2), .val (.int p3), .unset, .unset, .unset, .unset, .unset, .unset, .unset, .unset, .unset, .unset, .unset, .unset, .unset, .unset, .unset, .unset, .unset, .unset, .unset, .unset, .unset, .unset] [(.int (p1 &&& (7 : Int32)))])) (fun t_ k_ => XS.iand X0.here hx rfl (hb hby at_3) rfl k_) ?_
  refine Go.st (T' := s₁) (g' := (mkF m 5 #[.val (.int p1), .val (.int p2), .val (.int p3), .val (.int (p1 &&& (7 : Int32))), .unset, .unset, .unset, .unset, .unset, .unset, .unset, .unset, .unset, .unset, .unset, .unset, .unset, .unset, .unset, .unset, .unset, .unset, .unset, .unset, .unset] [])) (fun t_ k_ => XS.istoreN X0.here hx rfl (hb hby at_4) rfl (l' := #[.val (.int p1), .val (.int p2), .val (.int p3), .val (.int (p1 &&& (7 : Int32))), .unset, .unset, .unset, .unset, .unset, .unset, .unset, .unset, .unset, .unset, .unset, .unset, .unset, .unset, .unset, .unset, .unset, .unset, .unset, .unset, .unset]) rfl k_) ?_
  refine Go.st (T' := s₁) (g' := (mkF m 7 #[.val (.int p1), .val (.int p2), .val (.int p3), .val (.int (p1 &&& (7 : Int32))), .unset, .unset, .unset, .unset, .unset, .unset, .unset, .unset, .unset, .unset, .unset, .unset, .unset, .unset, .unset, .unset, .unset, .unset, .unset, .unset, .unset] [(.int (8 : Int32))])) (fun t_ k_ => XS.bipush X0.here hx rfl (hb hby at_5) k_) ?_
  refine Go.st (T' := s₁) (g' := (mkF m 8 #[.val (.int p1), .val (.int p2), .val (.int p3), .val (.int (p1 &&& (7 : Int32))), .unset, .unset, .unset, .unset, .unset, .unset, .unset, .unset, .unset, .unset, .unset, .unset, .unset, .unset, .unset, .unset, .unset, .unset, .unset, .unset, .unset] [(.int p1), (.int (8 : Int32))])) (fun t_ k_ => XS.iloadN X0.here hx rfl (hb hby at_7) rfl k_) ?_
  refine Go.st (T' := s₁) (g' := (mkF m 9 #[.val (.int p1), .val (.int p2), .val (.int p3), .val (.int (p1 &&& (7 : Int32))), .unset, .unset, .unset, .unset, .unset, .unset, .unset, .unset, .unset, .unset, .unset, .unset, .unset, .unset, .unset, .unset, .unset, .unset, .unset, .unset, .unset] [(.int (3 : Int32)), (.int p1), (.int (8 : Int32))])) (fun t_ k_ => XS.iconst X0.here hx rfl (hb hby at_8) k_) ?_
  refine Go.st (T' := s₁) (g' := (mkF m 10 #[.val (.int p1), .val (.int p2), .val (.int p3), .val (.int (p1 &&& (7 : Int32))), .unset, .unset, .unset, .unset, .unset, .unset, .unset, .unset, .unset, .unset, .unset, .unset, .unset, .unset, .unset, .unset, .unset, .unset, .unset, .unset, .unset] [(.int ((p1.toUInt32 >>> ((3 : Int32) &&& 31).toUInt32).toInt32)), (.int (8 : Int32))])) (fun t_ k_ => XS.iushr X0.here hx rfl (hb hby at_9) rfl k_) ?_
  refine Go.st (T' := s₁) (g' := (mkF m 12 #[.val (.int p1), .val (.int p2), .val (.int p3), .val (.int (p1 &&& (7 : Int32))), .unset, .unset, .unset, .unset, .unset, .unset, .unset, .unset, .unset, .unset, .unset, .unset, .unset, .unset, .unset, .unset, .unset, .unset, .unset, .unset, .unset] [(.int (7 : Int32)), (.int ((p1.toUInt32 >>> ((3 : Int32) &&& 31).toUInt32).toInt32)), (.int (8 : Int32))])) (fun t_ k_ => XS.bipush X0.here hx rfl (hb hby at_10) k_) ?_
  refine Go.st (T' := s₁) (g' := (mkF m 13 #[.val (.int p1), .val (.int p2), .val (.int p3), .val (.int (p1 &&& (7 : Int32))), .unset, .unset, .unset, .unset, .unset, .unset, .unset, .unset, .unset, .unset, .unset, .unset, .unset, .unset, .unset, .unset, .unset, .unset, .unset, .unset, .unset] [(.int (((p1.toUInt32 >>> ((3 : Int32) &&& 31).toUInt32).toInt32) &&& (7 : Int32))), (.int (8 : Int32))])) (fun t_ k_ => XS.iand X0.here hx rfl (hb hby at_12) rfl k_) ?_
  refine Go.st (T' := s₁) (g' := (mkF m 14 #[.val (.int p1), .val (.int p2), .val (.int p3), .val (.int (p1 &&& (7 : Int32))), .unset, .unset, .unset, .unset, .unset, .unset, .unset, .unset, .unset, .unset, .unset, .unset, .unset, .unset, .unset, .unset, .unset, .unset, .unset, .unset, .unset] [(.int ((8 : Int32) + (((p1.toUInt32 >>> ((3 : Int32) &&& 31).toUInt32).toInt32) &&& (7 : Int32))))])) (fun t_ k_ => XS.iadd X0.here hx rfl (hb hby at_13) rfl k_) ?_
  refine Go.st (T' := s₁) (g' := (mkF m 16 #[.val (.int p1), .val (.int p2), .val (.int p3), .val (.int (p1 &&& (7 : Int32))), .val (.int ((8 : Int32) + (((p1.toUInt32 >>> ((3 : Int32) &&& 31).toUInt32).toInt32) &&& (7 : Int32)))), .unset, .unset, .unset, .unset, .unset, .unset, .unset, .unset, .unset, .unset, .unset, .unset, .unset, .unset, .unset, .unset, .unset, .unset, .unset, .unset] [])) (fun t_ k_ => XS.istore X0.here hx rfl (hb hby at_14) rfl (l' := #[.val (.int p1), .val (.int p2), .val (.int p3), .val (.int (p1 &&& (7 : Int32))), .val (.int ((8 : Int32) + (((p1.toUInt32 >>> ((3 : Int32) &&& 31).toUInt32).toInt32) &&& (7 : Int32)))), .unset, .unset, .unset, .unset, .unset, .unset, .unset, .unset, .unset, .unset, .unset, .unset, .unset, .unset, .unset, .unset, .unset, .unset, .unset, .unset]) rfl k_) ?_
  refine Go.st (T' := s₁) (g' := (mkF m 18 #[.val (.int p1), .val (.int p2), .val (.int p3), .val (.int (p1 &&& (7 : Int32))), .val (.int ((8 : Int32) + (((p1.toUInt32 >>> ((3 : Int32) &&& 31).toUInt32).toInt32) &&& (7 : Int32)))), .unset, .unset, .unset, .unset, .unset, .unset, .unset, .unset, .unset, .unset, .unset, .unset, .unset, .unset, .unset, .unset, .unset, .unset, .unset, .unset] [(.int (16 : Int32))])) (fun t_ k_ => XS.bipush X0.here hx rfl (hb hby at_16) k_) ?_
  refine Go.st (T' := s₁) (g' := (mkF m 19 #[.val (.int p1), .val (.int p2), .val (.int p3), .val (.int (p1 &&& (7 : Int32))), .val (.int ((8 : Int32) + (((p1.toUInt32 >>> ((3 : Int32) &&& 31).toUInt32).toInt32) &&& (7 : Int32)))), .unset, .unset, .unset, .unset, .unset, .unset, .unset, .unset, .unset, .unset, .unset, .unset, .unset, .unset, .unset, .unset, .unset, .unset, .unset, .unset] [(.int p1), (.int (16 : Int32))])) (fun t_ k_ => XS.iloadN X0.here hx rfl (hb hby at_18) rfl k_) ?_
  refine Go.st (T' := s₁) (g' := (mkF m 21 #[.val (.int p1), .val (.int p2), .val (.int p3), .val (.int (p1 &&& (7 : Int32))), .val (.int ((8 : Int32) + (((p1.toUInt32 >>> ((3 : Int32) &&& 31).toUInt32).toInt32) &&& (7 : Int32)))), .unset, .unset, .unset, .unset, .unset, .unset, .unset, .unset, .unset, .unset, .unset, .unset, .unset, .unset, .unset, .unset, .unset, .unset, .unset, .unset] [(.int (6 : Int32)), (.int p1), (.int (16 : Int32))])) (fun t_ k_ => XS.bipush X0.here hx rfl (hb hby at_19) k_) ?_
  refine Go.st (T' := s₁) (g' := (mkF m 22 #[.val (.int p1), .val (.int p2), .val (.int p3), .val (.int (p1 &&& (7 : Int32))), .val (.int ((8 : Int32) + (((p1.toUInt32 >>> ((3 : Int32) &&& 31).toUInt32).toInt32) &&& (7 : Int32)))), .unset, .unset, .unset, .unset, .unset, .unset, .unset, .unset, .unset, .unset, .unset, .unset, .unset, .unset, .unset, .unset, .unset, .unset, .unset, .unset] [(.int ((p1.toUInt32 >>> ((6 : Int32) &&& 31).toUInt32).toInt32)), (.int (16 : Int32))])) (fun t_ k_ => XS.iushr X0.here hx rfl (hb hby at_21) rfl k_) ?_
  refine Go.st (T' := s₁) (g' := (mkF m 24 #[.val (.int p1), .val (.int p2), .val (.int p3), .val (.int (p1 &&& (7 : Int32))), .val (.int ((8 : Int32) + (((p1.toUInt32 >>> ((3 : Int32) &&& 31).toUInt32).toInt32) &&& (7 : Int32)))), .unset, .unset, .unset, .unset, .unset, .unset, .unset, .unset, .unset, .unset, .unset, .unset, .unset, .unset, .unset, .unset, .unset, .unset, .unset, .unset] [(.int (7 : Int32)), (.int ((p1.toUInt32 >>> ((6 : Int32) &&& 31).toUInt32).toInt32)), (.int (16 : Int32))])) (fun t_ k_ => XS.bipush X0.here hx rfl (hb hby at_22) k_) ?_
  refine Go.st (T' := s₁) (g' := (mkF m 25 #[.val (.int p1), .val (.int p2), .val (.int p3), .val (.int (p1 &&& (7 : Int32))), .val (.int ((8 : Int32) + (((p1.toUInt32 >>> ((3 : Int32) &&& 31).toUInt32).toInt32) &&& (7 : Int32)))), .unset, .unset, .unset, .unset, .unset, .unset, .unset, .unset, .unset, .unset, .unset, .unset, .unset, .unset, .unset, .unset, .unset, .unset, .unset, .unset] [(.int (((p1.toUInt32 >>> ((6 : Int32) &&& 31).toUInt32).toInt32) &&& (7 : Int32))), (.int (16 : Int32))])) (fun t_ k_ => XS.iand X0.here hx rfl (hb hby at_24) rfl k_) ?_
  refine Go.st (T' := s₁) (g' := (mkF m 26 #[.val (.int p1), .val (.int p2), .val (.int p3), .val (.int (p1 &&& (7 : Int32))), .val (.int ((8 : Int32) + (((p1.toUInt32 >>> ((3 : Int32) &&& 31).toUInt32).toInt32) &&& (7 : Int32)))), .unset, .unset, .unset, .unset, .unset, .unset, .unset, .unset, .unset, .unset, .unset, .unset, .unset, .unset, .unset, .unset, .unset, .unset, .unset, .unset] [(.int ((16 : Int32) + (((p1.toUInt32 >>> ((6 : Int32) &&& 31).toUInt32).toInt32) &&& (7 : Int32))))])) (fun t_ k_ => XS.iadd X0.here hx rfl (hb hby at_25) rfl k_) ?_
  refine Go.st (T' := s₁) (g' := (mkF m 28 #[.val (.int p1), .val (.int p2), .val (.int p3), .val (.int (p1 &&& (7 : Int32))), .val (.int ((8 : Int32) + (((p1.toUInt32 >>> ((3 : Int32) &&& 31).toUInt32).toInt32) &&& (7 : Int32)))), .val (.int ((16 : Int32) + (((p1.toUInt32 >>> ((6 : Int32) &&& 31).toUInt32).toInt32) &&& (7 : Int32)))), .unset, .unset, .unset, .unset, .unset, .unset, .unset, .unset, .unset, .unset, .unset, .unset, .unset, .unset, .unset, .unset, .unset, .unset, .unset] [])) (fun t_ k_ => XS.istore X0.here hx rfl (hb hby at_26) rfl (l' := #[.val (.int p1), .val (.int p2), .val (.int p3), .val (.int (p1 &&& (7 : Int32))), .val (.int ((8 : Int32) + (((p1.toUInt32 >>> ((3 : Int32) &&& 31).toUInt32).toInt32) &&& (7 : Int32)))), .val (.int ((16 : Int32) + (((p1.toUInt32 >>> ((6 : Int32) &&& 31).toUInt32).toInt32) &&& (7 : Int32)))), .unset, .unset, .unset, .unset, .unset, .unset, .unset, .unset, .unset, .unset, .unset, .unset, .unset, .unset, .unset, .unset, .unset, .unset, .unset]) rfl k_) ?_
  refine Go.st (T' := s₁) (g' := (mkF m 30 #[.val (.int p1), .val (.int p2), .val (.int p3), .val (.int (p1 &&& (7 : Int32))), .val (.int ((8 : Int32) + (((p1.toUInt32 >>> ((3 : Int32) &&& 31).toUInt32).toInt32) &&& (7 : Int32)))), .val (.int ((16 : Int32) + (((p1.toUInt32 >>> ((6 : Int32) &&& 31).toUInt32).toInt32) &&& (7 : Int32)))), .unset, .unset, .unset, .unset, .unset, .unset, .unset, .unset, .unset, .unset, .unset, .unset, .unset, .unset, .unset, .unset, .unset, .unset, .unset] [(.int (24 : Int32))])) (fun t_ k_ => XS.bipush X0.here hx rfl (hb hby at_28) k_) ?_
  refine Go.st (T' := s₁) (g' := (mkF m 31 #[.val (.int p1), .val (.int p2), .val (.int p3), .val (.int (p1 &&& (7 : Int32))), .val (.int ((8 : Int32) + (((p1.toUInt32 >>> ((3 : Int32) &&& 31).toUInt32).toInt32) &&& (7 : Int32)))), .val (.int ((16 : Int32) + (((p1.toUInt32 >>> ((6 : Int32) &&& 31).toUInt32).toInt32) &&& (7 : Int32)))), .unset, .unset, .unset, .unset, .unset, .unset, .unset, .unset, .unset, .unset, .unset, .unset, .unset, .unset, .unset, .unset, .unset, .unset, .unset] [(.int p1), (.int (24 : Int32))])) (fun t_ k_ => XS.iloadN X0.here hx rfl (hb hby at_30) rfl k_) ?_
  refine Go.st (T' := s₁) (g' := (mkF m 33 #[.val (.int p1), .val (.int p2), .val (.int p3), .val (.int (p1 &&& (7 : Int32))), .val (.int ((8 : Int32) + (((p1.toUInt32 >>> ((3 : Int32) &&& 31).toUInt32).toInt32) &&& (7 : Int32)))), .val (.int ((16 : Int32) + (((p1.toUInt32 >>> ((6 : Int32) &&& 31).toUInt32).toInt32) &&& (7 : Int32)))), .unset, .unset, .unset, .unset, .unset, .unset, .unset, .unset, .unset, .unset, .unset, .unset, .unset, .unset, .unset, .unset, .unset, .unset, .unset] [(.int (9 : Int32)), (.int p1), (.int (24 : Int32))])) (fun t_ k_ => XS.bipush X0.here hx rfl (hb hby at_31) k_) ?_
  refine Go.st (T' := s₁) (g' := (mkF m 34 #[.val (.int p1), .val (.int p2), .val (.int p3), .val (.int (p1 &&& (7 : Int32))), .val (.int ((8 : Int32) + (((p1.toUInt32 >>> ((3 : Int32) &&& 31).toUInt32).toInt32) &&& (7 : Int32)))), .val (.int ((16 : Int32) + (((p1.toUInt32 >>> ((6 : Int32) &&& 31).toUInt32).toInt32) &&& (7 : Int32)))), .unset, .unset, .unset, .unset, .unset, .unset, .unset, .unset, .unset, .unset, .unset, .unset, .unset, .unset, .unset, .unset, .unset, .unset, .unset] [(.int ((p1.toUInt32 >>> ((9 : Int32) &&& 31).toUInt32).toInt32)), (.int (24 : Int32))])) (fun t_ k_ => XS.iushr X0.here hx rfl (hb hby at_33) rfl k_) ?_
  refine Go.st (T' := s₁) (g' := (mkF m 36 #[.val (.int p1), .val (.int p2), .val (.int p3), .val (.int (p1 &&& (7 : Int32))), .val (.int ((8 : Int32) + (((p1.toUInt32 >>> ((3 : Int32) &&& 31).toUInt32).toInt32) &&& (7 : Int32)))), .val (.int ((16 : Int32) + (((p1.toUInt32 >>> ((6 : Int32) &&& 31).toUInt32).toInt32) &&& (7 : Int32)))), .unset, .unset, .unset, .unset, .unset, .unset, .unset, .unset, .unset, .unset, .unset, .unset, .unset, .unset, .unset, .unset, .unset, .unset, .unset] [(.int (7 : Int32)), (.int ((p1.toUInt32 >>> ((9 : Int32) &&& 31).toUInt32).toInt32)), (.int (24 : Int32))])) (fun t_ k_ => XS.bipush X0.here hx rfl (hb hby at_34) k_) ?_
  refine Go.st (T' := s₁) (g' := (mkF m 37 #[.val (.int p1), .val (.int p2), .val (.int p3), .val (.int (p1 &&& (7 : Int32))), .val (.int ((8 : Int32) + (((p1.toUInt32 >>> ((3 : Int32) &&& 31).toUInt32).toInt32) &&& (7 : Int32)))), .val (.int ((16 : Int32) + (((p1.toUInt32 >>> ((6 : Int32) &&& 31).toUInt32).toInt32) &&& (7 : Int32)))), .unset, .unset, .unset, .unset, .unset, .unset, .unset, .unset, .unset, .unset, .unset, .unset, .unset, .unset, .unset, .unset, .unset, .unset, .unset] [(.int (((p1.toUInt32 >>> ((9 : Int32) &&& 31).toUInt32).toInt32) &&& (7 : Int32))), (.int (24 : Int32))])) (fun t_ k_ => XS.iand X0.here hx rfl (hb hby at_36) rfl k_) ?_
  refine Go.st (T' := s₁) (g' := (mkF m 38 #[.val (.int p1), .val (.int p2), .val (.int p3), .val (.int (p1 &&& (7 : Int32))), .val (.int ((8 : Int32) + (((p1.toUInt32 >>> ((3 : Int32) &&& 31).toUInt32).toInt32) &&& (7 : Int32)))), .val (.int ((16 : Int32) + (((p1.toUInt32 >>> ((6 : Int32) &&& 31).toUInt32).toInt32) &&& (7 : Int32)))), .unset, .unset, .unset, .unset, .unset, .unset, .unset, .unset, .unset, .unset, .unset, .unset, .unset, .unset, .unset, .unset, .unset, .unset, .unset] [(.int ((24 : Int32) + (((p1.toUInt32 >>> ((9 : Int32) &&& 31).toUInt32).toInt32) &&& (7 : Int32))))])) (fun t_ k_ => XS.iadd X0.here hx rfl (hb hby at_37) rfl k_) ?_
  refine Go.st (T' := s₁) (g' := (mkF m 40 #[.val (.int p1), .val (.int p2), .val (.int p3), .val (.int (p1 &&& (7 : Int32))), .val (.int ((8 : Int32) + (((p1.toUInt32 >>> ((3 : Int32) &&& 31).toUInt32).toInt32) &&& (7 : Int32)))), .val (.int ((16 : Int32) + (((p1.toUInt32 >>> ((6 : Int32) &&& 31).toUInt32).toInt32) &&& (7 : Int32)))), .val (.int ((24 : Int32) + (((p1.toUInt32 >>> ((9 : Int32) &&& 31).toUInt32).toInt32) &&& (7 : Int32)))), .unset, .unset, .unset, .unset, .unset, .unset, .unset, .unset, .unset, .unset, .unset, .unset, .unset, .unset, .unset, .unset, .unset, .unset] [])) (fun t_ k_ => XS.istore X0.here hx rfl (hb hby at_38) rfl (l' := #[.val (.int p1), .val (.int p2), .val (.int p3), .val (.int (p1 &&& (7 : Int32))), .val (.int ((8 : Int32) + (((p1.toUInt32 >>> ((3 : Int32) &&& 31).toUInt32).toInt32) &&& (7 : Int32)))), .val (.int ((16 : Int32) + (((p1.toUInt32 >>> ((6 : Int32) &&& 31).toUInt32).toInt32) &&& (7 : Int32)))), .val (.int ((24 : Int32) + (((p1.toUInt32 >>> ((9 : Int32) &&& 31).toUInt32).toInt32) &&& (7 : Int32)))), .unset, .unset, .unset, .unset, .unset, .unset, .unset, .unset, .unset, .unset, .unset, .unset, .unset, .unset, .unset, .unset, .unset, .unset]) rfl k_) ?_
  have z4 := own_m7 ((p1.toUInt32 >>> ((3 : Int32) &&& 31).toUInt32).toInt32) 8 (by decide)
  simp only [Int32.reduceToInt] at z4
  have z5 := own_m7 ((p1.toUInt32 >>> ((6 : Int32) &&& 31).toUInt32).toInt32) 16 (by decide)
  simp only [Int32.reduceToInt] at z5
  have z6 := own_m7 ((p1.toUInt32 >>> ((9 : Int32) &&& 31).toUInt32).toInt32) 24 (by decide)
  simp only [Int32.reduceToInt] at z6
  have h4 : own_4 (p1 &&& (7 : Int32)) ((8 : Int32) + (((p1.toUInt32 >>> ((3 : Int32) &&& 31).toUInt32).toInt32) &&& (7 : Int32))) ((16 : Int32) + (((p1.toUInt32 >>> ((6 : Int32) &&& 31).toUInt32).toInt32) &&& (7 : Int32))) ((24 : Int32) + (((p1.toUInt32 >>> ((9 : Int32) &&& 31).toUInt32).toInt32) &&& (7 : Int32))) := ⟨own_m7' _, ⟨z4.1, by omega, by omega⟩, ⟨z5.1, by omega, by omega⟩, ⟨z6.1, by omega, by omega⟩⟩
  clear z4 z5 z6
  generalize e_va : (p1 &&& (7 : Int32)) = va
  rw [e_va] at h4
  generalize e_vb : ((8 : Int32) + (((p1.toUInt32 >>> ((3 : Int32) &&& 31).toUInt32).toInt32) &&& (7 : Int32))) = vb
  rw [e_vb] at h4
  generalize e_vc : ((16 : Int32) + (((p1.toUInt32 >>> ((6 : Int32) &&& 31).toUInt32).toInt32) &&& (7 : Int32))) = vc
  rw [e_vc] at h4
  generalize e_vd : ((24 : Int32) + (((p1.toUInt32 >>> ((9 : Int32) &&& 31).toUInt32).toInt32) &&& (7 : Int32))) = vd
  rw [e_vd] at h4
  refine Go.st (T' := s₁) (g' := (mkF m 41 #[.val (.int p1), .val (.int p2), .val (.int p3), .val (.int va), .val (.int vb), .val (.int vc), .val (.int vd), .unset, .unset, .unset, .unset, .unset, .unset, .unset, .unset, .unset, .unset, .unset, .unset, .unset, .unset, .unset, .unset, .unset, .unset] [(.int p1)])) (fun t_ k_ => XS.iloadN X0.here hx rfl (hb hby at_40) rfl k_) ?_
  refine Go.st (T' := s₁) (g' := (mkF m 43 #[.val (.int p1), .val (.int p2), .val (.int p3), .val (.int va), .val (.int vb), .val (.int vc), .val (.int vd), .unset, .unset, .unset, .unset, .unset, .unset, .unset, .unset, .unset, .unset, .unset, .unset, .unset, .unset, .unset, .unset, .unset, .unset] [(.int (12 : Int32)), (.int p1)])) (fun t_ k_ => XS.bipush X0.here hx rfl (hb hby at_41) k_) ?_
  refine Go.st (T' := s₁) (g' := (mkF m 44 #[.val (.int p1), .val (.int p2), .val (.int p3), .val (.int va), .val (.int vb), .val (.int vc), .val (.int vd), .unset, .unset, .unset, .unset, .unset, .unset, .unset, .unset, .unset, .unset, .unset, .unset, .unset, .unset, .unset, .unset, .unset, .unset] [(.int ((p1.toUInt32 >>> ((12 : Int32) &&& 31).toUInt32).toInt32))])) (fun t_ k_ => XS.iushr X0.here hx rfl (hb hby at_43) rfl k_) ?_
  refine Go.st (T' := s₁) (g' := (mkF m 45 #[.val (.int p1), .val (.int p2), .val (.int p3), .val (.int va), .val (.int vb), .val (.int vc), .val (.int vd), .unset, .unset, .unset, .unset, .unset, .unset, .unset, .unset, .unset, .unset, .unset, .unset, .unset, .unset, .unset, .unset, .unset, .unset] [(.int (1 : Int32)), (.int ((p1.toUInt32 >>> ((12 : Int32) &&& 31).toUInt32).toInt32))])) (fun t_ k_ => XS.iconst X0.here hx rfl (hb hby at_44) k_) ?_
  refine Go.st (T' := s₁) (g' := (mkF m 46 #[.val (.int p1), .val (.int p2), .val (.int p3), .val (.int va), .val (.int vb), .val (.int vc), .val (.int vd), .unset, .unset, .unset, .unset, .unset, .unset, .unset, .unset, .unset, .unset, .unset, .unset, .unset, .unset, .unset, .unset, .unset, .unset] [(.int (((p1.toUInt32 >>> ((12 : Int32) &&& 31).toUInt32).toInt32) &&& (1 : Int32)))])) (fun t_ k_ => XS.iand X0.here hx rfl (hb hby at_45) rfl k_) ?_
  have J54_1 : ∀ (f1 : Int32), f1 = (if (((p1.toUInt32 >>> ((12 : Int32) &&& 31).toUInt32).toInt32) &&& (1 : Int32)) = (0 : Int32) then (0 : Int32) else (1 : Int32)) → Go p e below (PostW s n0 room_1.cells room_1.slots (Q0 Z n0 h0 p1 p2 p3)) s₁ (mkF m 54 #[.val (.int p1), .val (.int p2), .val (.int p3), .val (.int va), .val (.int vb), .val (.int vc), .val (.int vd), .unset, .unset, .unset, .unset, .unset, .unset, .unset, .unset, .unset, .unset, .unset, .unset, .unset, .unset, .unset, .unset, .unset, .unset] [(.int f1)]) := by
    intro f1 h_f1
    refine Go.st (T' := s₁) (g' := (mkF m 56 #[.val (.int p1), .val (.int p2), .val (.int p3), .val (.int va), .val (.int vb), .val (.int vc), .val (.int vd), .val (.int f1), .unset, .unset, .unset, .unset, .unset, .unset, .unset, .unset, .unset, .unset, .unset, .unset, .unset, .unset, .unset, .unset, .unset] [])) (fun t_ k_ => XS.istore X0.here hx rfl (hb hby at_54) rfl (l' := #[.val (.int p1), .val (.int p2), .val (.int p3), .val (.int va), .val (.int vb), .val (.int vc), .val (.int vd), .val (.int f1), .unset, .unset, .unset, .unset, .unset, .unset, .unset, .unset, .unset, .unset, .unset, .unset, .unset, .unset, .unset, .unset, .unset]) rfl k_) ?_
    refine Go.st (T' := s₁) (g' := (mkF m 57 #[.val (.int p1), .val (.int p2), .val (.int p3), .val (.int va), .val (.int vb), .val (.int vc), .val (.int vd), .val (.int f1), .unset, .unset, .unset, .unset, .unset, .unset, .unset, .unset, .unset, .unset, .unset, .unset, .unset, .unset, .unset, .unset, .unset] [(.int p1)])) (fun t_ k_ => XS.iloadN X0.here hx rfl (hb hby at_56) rfl k_) ?_
    refine Go.st (T' := s₁) (g' := (mkF m 59 #[.val (.int p1), .val (.int p2), .val (.int p3), .val (.int va), .val (.int vb), .val (.int vc), .val (.int vd), .val (.int f1), .unset, .unset, .unset, .unset, .unset, .unset, .unset, .unset, .unset, .unset, .unset, .unset, .unset, .unset, .unset, .unset, .unset] [(.int (13 : Int32)), (.int p1)])) (fun t_ k_ => XS.bipush X0.here hx rfl (hb hby at_57) k_) ?_
    refine Go.st (T' := s₁) (g' := (mkF m 60 #[.val (.int p1), .val (.int p2), .val (.int p3), .val (.int va), .val (.int vb), .val (.int vc), .val (.int vd), .val (.int f1), .unset, .unset, .unset, .unset, .unset, .unset, .unset, .unset, .unset, .unset, .unset, .unset, .unset, .unset, .unset, .unset, .unset] [(.int ((p1.toUInt32 >>> ((13 : Int32) &&& 31).toUInt32).toInt32))])) (fun t_ k_ => XS.iushr X0.here hx rfl (hb hby at_59) rfl k_) ?_
    refine Go.st (T' := s₁) (g' := (mkF m 61 #[.val (.int p1), .val (.int p2), .val (.int p3), .val (.int va), .val (.int vb), .val (.int vc), .val (.int vd), .val (.int f1), .unset, .unset, .unset, .unset, .unset, .unset, .unset, .unset, .unset, .unset, .unset, .unset, .unset, .unset, .unset, .unset, .unset] [(.int (1 : Int32)), (.int ((p1.toUInt32 >>> ((13 : Int32) &&& 31).toUInt32).toInt32))])) (fun t_ k_ => XS.iconst X0.here hx rfl (hb hby at_60) k_) ?_
    refine Go.st (T' := s₁) (g' := (mkF m 62 #[.val (.int p1), .val (.int p2), .val (.int p3), .val (.int va), .val (.int vb), .val (.int vc), .val (.int vd), .val (.int f1), .unset, .unset, .unset, .unset, .unset, .unset, .unset, .unset, .unset, .unset, .unset, .unset, .unset, .unset, .unset, .unset, .unset] [(.int (((p1.toUInt32 >>> ((13 : Int32) &&& 31).toUInt32).toInt32) &&& (1 : Int32)))])) (fun t_ k_ => XS.iand X0.here hx rfl (hb hby at_61) rfl k_) ?_
    have J70_2 : ∀ (f2 : Int32), f2 = (if (((p1.toUInt32 >>> ((13 : Int32) &&& 31).toUInt32).toInt32) &&& (1 : Int32)) = (0 : Int32) then (0 : Int32) else (1 : Int32)) → Go p e below (PostW s n0 room_1.cells room_1.slots (Q0 Z n0 h0 p1 p2 p3)) s₁ (mkF m 70 #[.val (.int p1), .val (.int p2), .val (.int p3), .val (.int va), .val (.int vb), .val (.int vc), .val (.int vd), .val (.int f1), .unset, .unset, .unset, .unset, .unset, .unset, .unset, .unset, .unset, .unset, .unset, .unset, .unset, .unset, .unset, .unset, .unset] [(.int f2)]) := by
      intro f2 h_f2
      refine Go.st (T' := s₁) (g' := (mkF m 72 #[.val (.int p1), .val (.int p2), .val (.int p3), .val (.int va), .val (.int vb), .val (.int vc), .val (.int vd), .val (.int f1), .val (.int f2), .unset, .unset, .unset, .unset, .unset, .unset, .unset, .unset, .unset, .unset, .unset, .unset, .unset, .unset, .unset, .unset] [])) (fun t_ k_ => XS.istore X0.here hx rfl (hb hby at_70) rfl (l' := #[.val (.int p1), .val (.int p2), .val (.int p3), .val (.int va), .val (.int vb), .val (.int vc), .val (.int vd), .val (.int f1), .val (.int f2), .unset, .unset, .unset, .unset, .unset, .unset, .unset, .unset, .unset, .unset, .unset, .unset, .unset, .unset, .unset, .unset]) rfl k_) ?_
      refine Go.st (T' := s₁) (g' := (mkF m 73 #[.val (.int p1), .val (.int p2), .val (.int p3), .val (.int va), .val (.int vb), .val (.int vc), .val (.int vd), .val (.int f1), .val (.int f2), .unset, .unset, .unset, .unset, .unset, .unset, .unset, .unset, .unset, .unset, .unset, .unset, .unset, .unset, .unset, .unset] [(.int p1)])) (fun t_ k_ => XS.iloadN X0.here hx rfl (hb hby at_72) rfl k_) ?_
      refine Go.st (T' := s₁) (g' := (mkF m 75 #[.val (.int p1), .val (.int p2), .val (.int p3), .val (.int va), .val (.int vb), .val (.int vc), .val (.int vd), .val (.int f1), .val (.int f2), .unset, .unset, .unset, .unset, .unset, .unset, .unset, .unset, .unset, .unset, .unset, .unset, .unset, .unset, .unset, .unset] [(.int (14 : Int32)), (.int p1)])) (fun t_ k_ => XS.bipush X0.here hx rfl (hb hby at_73) k_) ?_
      refine Go.st (T' := s₁) (g' := (mkF m 76 #[.val (.int p1), .val (.int p2), .val (.int p3), .val (.int va), .val (.int vb), .val (.int vc), .val (.int vd), .val (.int f1), .val (.int f2), .unset, .unset, .unset, .unset, .unset, .unset, .unset, .unset, .unset, .unset, .unset, .unset, .unset, .unset, .unset, .unset] [(.int ((p1.toUInt32 >>> ((14 : Int32) &&& 31).toUInt32).toInt32))])) (fun t_ k_ => XS.iushr X0.here hx rfl (hb hby at_75) rfl k_) ?_
      refine Go.st (T' := s₁) (g' := (mkF m 77 #[.val (.int p1), .val (.int p2), .val (.int p3), .val (.int va), .val (.int vb), .val (.int vc), .val (.int vd), .val (.int f1), .val (.int f2), .unset, .unset, .unset, .unset, .unset, .unset, .unset, .unset, .unset, .unset, .unset, .unset, .unset, .unset, .unset, .unset] [(.int (1 : Int32)), (.int ((p1.toUInt32 >>> ((14 : Int32) &&& 31).toUInt32).toInt32))])) (fun t_ k_ => XS.iconst X0.here hx rfl (hb hby at_76) k_) ?_
      refine Go.st (T' := s₁) (g' := (mkF m 78 #[.val (.int p1), .val (.int p2), .val (.int p3), .val (.int va), .val (.int vb), .val (.int vc), .val (.int vd), .val (.int f1), .val (.int f2), .unset, .unset, .unset, .unset, .unset, .unset, .unset, .unset, .unset, .unset, .unset, .unset, .unset, .unset, .unset, .unset] [(.int (((p1.toUInt32 >>> ((14 : Int32) &&& 31).toUInt32).toInt32) &&& (1 : Int32)))])) (fun t_ k_ => XS.iand X0.here hx rfl (hb hby at_77) rfl k_) ?_
      have J86_3 : ∀ (f3 : Int32), f3 = (if (((p1.toUInt32 >>> ((14 : Int32) &&& 31).toUInt32).toInt32) &&& (1 : Int32)) = (0 : Int32) then (0 : Int32) else (1 : Int32)) → Go p e below (PostW s n0 room_1.cells room_1.slots (Q0 Z n0 h0 p1 p2 p3)) s₁ (mkF m 86 #[.val (.int p1), .val (.int p2), .val (.int p3), .val (.int va), .val (.int vb), .val (.int vc), .val (.int vd), .val (.int f1), .val (.int f2), .unset, .unset, .unset, .unset, .unset, .unset, .unset, .unset, .unset, .unset, .unset, .unset, .unset, .unset, .unset, .unset] [(.int f3)]) := by
        intro f3 h_f3
        refine Go.st (T' := s₁) (g' := (mkF m 88 #[.val (.int p1), .val (.int p2), .val (.int p3), .val (.int va), .val (.int vb), .val (.int vc), .val (.int vd), .val (.int f1), .val (.int f2), .val (.int f3), .unset, .unset, .unset, .unset, .unset, .unset, .unset, .unset, .unset, .unset, .unset, .unset, .unset, .unset, .unset] [])) (fun t_ k_ => XS.istore X0.here hx rfl (hb hby at_86) rfl (l' := #[.val (.int p1), .val (.int p2), .val (.int p3), .val (.int va), .val (.int vb), .val (.int vc), .val (.int vd), .val (.int f1), .val (.int f2), .val (.int f3), .unset, .unset, .unset, .unset, .unset, .unset, .unset, .unset, .unset, .unset, .unset, .unset, .unset, .unset, .unset]) rfl k_) ?_
        refine Go.st (T' := s₁) (g' := (mkF m 89 #[.val (.int p1), .val (.int p2), .val (.int p3), .val (.int va), .val (.int vb), .val (.int vc), .val (.int vd), .val (.int f1), .val (.int f2), .val (.int f3), .unset, .unset, .unset, .unset, .unset, .unset, .unset, .unset, .unset, .unset, .unset, .unset, .unset, .unset, .unset] [(.int p1)])) (fun t_ k_ => XS.iloadN X0.here hx rfl (hb hby at_88) rfl k_) ?_
        refine Go.st (T' := s₁) (g' := (mkF m 91 #[.val (.int p1), .val (.int p2), .val (.int p3), .val (.int va), .val (.int vb), .val (.int vc), .val (.int vd), .val (.int f1), .val (.int f2), .val (.int f3), .unset, .unset, .unset, .unset, .unset, .unset, .unset, .unset, .unset, .unset, .unset, .unset, .unset, .unset, .unset] [(.int (15 : Int32)), (.int p1)])) (fun t_ k_ => XS.bipush X0.here hx rfl (hb hby at_89) k_) ?_
        refine Go.st (T' := s₁) (g' := (mkF m 92 #[.val (.int p1), .val (.int p2), .val (.int p3), .val (.int va), .val (.int vb), .val (.int vc), .val (.int vd), .val (.int f1), .val (.int f2), .val (.int f3), .unset, .unset, .unset, .unset, .unset, .unset, .unset, .unset, .unset, .unset, .unset, .unset, .unset, .unset, .unset] [(.int ((p1.toUInt32 >>> ((15 : Int32) &&& 31).toUInt32).toInt32))])) (fun t_ k_ => XS.iushr X0.here hx rfl (hb hby at_91) rfl k_) ?_
        refine Go.st (T' := s₁) (g' := (mkF m 93 #[.val (.int p1), .val (.int p2), .val (.int p3), .val (.int va), .val (.int vb), .val (.int vc), .val (.int vd), .val (.int f1), .val (.int f2), .val (.int f3), .unset, .unset, .unset, .unset, .unset, .unset, .unset, .unset, .unset, .unset, .unset, .unset, .unset, .unset, .unset] [(.int (1 : Int32)), (.int ((p1.toUInt32 >>> ((15 : Int32) &&& 31).toUInt32).toInt32))])) (fun t_ k_ => XS.iconst X0.here hx rfl (hb hby at_92) k_) ?_
        refine Go.st (T' := s₁) (g' := (mkF m 94 #[.val (.int p1), .val (.int p2), .val (.int p3), .val (.int va), .val (.int vb), .val (.int vc), .val (.int vd), .val (.int f1), .val (.int f2), .val (.int f3), .unset, .unset, .unset, .unset, .unset, .unset, .unset, .unset, .unset, .unset, .unset, .unset, .unset, .unset, .unset] [(.int (((p1.toUInt32 >>> ((15 : Int32) &&& 31).toUInt32).toInt32) &&& (1 : Int32)))])) (fun t_ k_ => XS.iand X0.here hx rfl (hb hby at_93) rfl k_) ?_
        have J102_4 : ∀ (g1 : Int32), g1 = (if (((p1.toUInt32 >>> ((15 : Int32) &&& 31).toUInt32).toInt32) &&& (1 : Int32)) = (0 : Int32) then (0 : Int32) else (1 : Int32)) → Go p e below (PostW s n0 room_1.cells room_1.slots (Q0 Z n0 h0 p1 p2 p3)) s₁ (mkF m 102 #[.val (.int p1), .val (.int p2), .val (.int p3), .val (.int va), .val (.int vb), .val (.int vc), .val (.int vd), .val (.int f1), .val (.int f2), .val (.int f3), .unset, .unset, .unset, .unset, .unset, .unset, .unset, .unset, .unset, .unset, .unset, .unset, .unset, .unset, .unset] [(.int g1)]) := by
          intro g1 h_g1
          refine Go.st (T' := s₁) (g' := (mkF m 104 #[.val (.int p1), .val (.int p2), .val (.int p3), .val (.int va), .val (.int vb), .val (.int vc), .val (.int vd), .val (.int f1), .val (.int f2), .val (.int f3), .val (.int g1), .unset, .unset, .unset, .unset, .unset, .unset, .unset, .unset, .unset, .unset, .unset, .unset, .unset, .unset] [])) (fun t_ k_ => XS.istore X0.here hx rfl (hb hby at_102) rfl (l' := #[.val (.int p1), .val (.int p2), .val (.int p3), .val (.int va), .val (.int vb), .val (.int vc), .val (.int vd), .val (.int f1), .val (.int f2), .val (.int f3), .val (.int g1), .unset, .unset, .unset, .unset, .unset, .unset, .unset, .unset, .unset, .unset, .unset, .unset, .unset, .unset]) rfl k_) ?_
          refine Go.st (T' := s₁) (g' := (mkF m 105 #[.val (.int p1), .val (.int p2), .val (.int p3), .val (.int va), .val (.int vb), .val (.int vc), .val (.int vd), .val (.int f1), .val (.int f2), .val (.int f3), .val (.int g1), .unset, .unset, .unset, .unset, .unset, .unset, .unset, .unset, .unset, .unset, .unset, .unset, .unset, .unset] [(.int p1)])) (fun t_ k_ => XS.iloadN X0.here hx rfl (hb hby at_104) rfl k_) ?_
          refine Go.st (T' := s₁) (g' := (mkF m 107 #[.val (.int p1), .val (.int p2), .val (.int p3), .val (.int va), .val (.int vb), .val (.int vc), .val (.int vd), .val (.int f1), .val (.int f2), .val (.int f3), .val (.int g1), .unset, .unset, .unset, .unset, .unset, .unset, .unset, .unset, .unset, .unset, .unset, .unset, .unset, .unset] [(.int (16 : Int32)), (.int p1)])) (fun t_ k_ => XS.bipush X0.here hx rfl (hb hby at_105) k_) ?_
          refine Go.st (T' := s₁) (g' := (mkF m 108 #[.val (.int p1), .val (.int p2), .val (.int p3), .val (.int va), .val (.int vb), .val (.int vc), .val (.int vd), .val (.int f1), .val (.int f2), .val (.int f3), .val (.int g1), .unset, .unset, .unset, .unset, .unset, .unset, .unset, .unset, .unset, .unset, .unset, .unset, .unset, .unset] [(.int ((p1.toUInt32 >>> ((16 : Int32) &&& 31).toUInt32).toInt32))])) (fun t_ k_ => XS.iushr X0.here hx rfl (hb hby at_107) rfl k_) ?_
          refine Go.st (T' := s₁) (g' := (mkF m 109 #[.val (.int p1), .val (.int p2), .val (.int p3), .val (.int va), .val (.int vb), .val (.int vc), .val (.int vd), .val (.int f1), .val (.int f2), .val (.int f3), .val (.int g1), .unset, .unset, .unset, .unset, .unset, .unset, .unset, .unset, .unset, .unset, .unset, .unset, .unset, .unset] [(.int (1 : Int32)), (.int ((p1.toUInt32 >>> ((16 : Int32) &&& 31).toUInt32).toInt32))])) (fun t_ k_ => XS.iconst X0.here hx rfl (hb hby at_108) k_) ?_
          refine Go.st (T' := s₁) (g' := (mkF m 110 #[.val (.int p1), .val (.int p2), .val (.int p3), .val (.int va), .val (.int vb), .val (.int vc), .val (.int vd), .val (.int f1), .val (.int f2), .val (.int f3), .val (.int g1), .unset, .unset, .unset, .unset, .unset, .unset, .unset, .unset, .unset, .unset, .unset, .unset, .unset, .unset] [(.int (((p1.toUInt32 >>> ((16 : Int32) &&& 31).toUInt32).toInt32) &&& (1 : Int32)))])) (fun t_ k_ => XS.iand X0.here hx rfl (hb hby at_109) rfl k_) ?_
          have J118_5 : ∀ (g2 : Int32), g2 = (if (((p1.toUInt32 >>> ((16 : Int32) &&& 31).toUInt32).toInt32) &&& (1 : Int32)) = (0 : Int32) then (0 : Int32) else (1 : Int32)) → Go p e below (PostW s n0 room_1.cells room_1.slots (Q0 Z n0 h0 p1 p2 p3)) s₁ (mkF m 118 #[.val (.int p1), .val (.int p2), .val (.int p3), .val (.int va), .val (.int vb), .val (.int vc), .val (.int vd), .val (.int f1), .val (.int f2), .val (.int f3), .val (.int g1), .unset, .unset, .unset, .unset, .unset, .unset, .unset, .unset, .unset, .unset, .unset, .unset, .unset, .unset] [(.int g2)]) := by
            intro g2 h_g2
            refine Go.st (T' := s₁) (g' := (mkF m 120 #[.val (.int p1), .val (.int p2), .val (.int p3), .val (.int va), .val (.int vb), .val (.int vc), .val (.int vd), .val (.int f1), .val (.int f2), .val (.int f3), .val (.int g1), .val (.int g2), .unset, .unset, .unset, .unset, .unset, .unset, .unset, .unset, .unset, .unset, .unset, .unset, .unset] [])) (fun t_ k_ => XS.istore X0.here hx rfl (hb hby at_118) rfl (l' := #[.val (.int p1), .val (.int p2), .val (.int p3), .val (.int va), .val (.int vb), .val (.int vc), .val (.int vd), .val (.int f1), .val (.int f2), .val (.int f3), .val (.int g1), .val (.int g2), .unset, .unset, .unset, .unset, .unset, .unset, .unset, .unset, .unset, .unset, .unset, .unset, .unset]) rfl k_) ?_
            refine Go.st (T' := s₁) (g' := (mkF m 121 #[.val (.int p1), .val (.int p2), .val (.int p3), .val (.int va), .val (.int vb), .val (.int vc), .val (.int vd), .val (.int f1), .val (.int f2), .val (.int f3), .val (.int g1), .val (.int g2), .unset, .unset, .unset, .unset, .unset, .unset, .unset, .unset, .unset, .unset, .unset, .unset, .unset] [(.int p1)])) (fun t_ k_ => XS.iloadN X0.here hx rfl (hb hby at_120) rfl k_) ?_
            refine Go.st (T' := s₁) (g' := (mkF m 123 #[.val (.int p1), .val (.int p2), .val (.int p3), .val (.int va), .val (.int vb), .val (.int vc), .val (.int vd), .val (.int f1), .val (.int f2), .val (.int f3), .val (.int g1), .val (.int g2), .unset, .unset, .unset, .unset, .unset, .unset, .unset, .unset, .unset, .unset, .unset, .unset, .unset] [(.int (17 : Int32)), (.int p1)])) (fun t_ k_ => XS.bipush X0.here hx rfl (hb hby at_121) k_) ?_
            refine Go.st (T' := s₁) (g' := (mkF m 124 #[.val (.int p1), .val (.int p2), .val (.int p3), .val (.int va), .val (.int vb), .val (.int vc), .val (.int vd), .val (.int f1), .val (.int f2), .val (.int f3), .val (.int g1), .val (.int g2), .unset, .unset, .unset, .unset, .unset, .unset, .unset, .unset, .unset, .unset, .unset, .unset, .unset] [(.int ((p1.toUInt32 >>> ((17 : Int32) &&& 31).toUInt32).toInt32))])) (fun t_ k_ => XS.iushr X0.here hx rfl (hb hby at_123) rfl k_) ?_
            refine Go.st (T' := s₁) (g' := (mkF m 125 #[.val (.int p1), .val (.int p2), .val (.int p3), .val (.int va), .val (.int vb), .val (.int vc), .val (.int vd), .val (.int f1), .val (.int f2), .val (.int f3), .val (.int g1), .val (.int g2), .unset, .unset, .unset, .unset, .unset, .unset, .unset, .unset, .unset, .unset, .unset, .unset, .unset] [(.int (1 : Int32)), (.int ((p1.toUInt32 >>> ((17 : Int32) &&& 31).toUInt32).toInt32))])) (fun t_ k_ => XS.iconst X0.here hx rfl (hb hby at_124) k_) ?_
            refine Go.st (T' := s₁) (g' := (mkF m 126 #[.val (.int p1), .val (.int p2), .val (.int p3), .val (.int va), .val (.int vb), .val (.int vc), .val (.int vd), .val (.int f1), .val (.int f2), .val (.int f3), .val (.int g1), .val (.int g2), .unset, .unset, .unset, .unset, .unset, .unset, .unset, .unset, .unset, .unset, .unset, .unset, .unset] [(.int (((p1.toUInt32 >>> ((17 : Int32) &&& 31).toUInt32).toInt32) &&& (1 : Int32)))])) (fun t_ k_ => XS.iand X0.here hx rfl (hb hby at_125) rfl k_) ?_
            have J134_6 : ∀ (g3 : Int32), g3 = (if (((p1.toUInt32 >>> ((17 : Int32) &&& 31).toUInt32).toInt32) &&& (1 : Int32)) = (0 : Int32) then (0 : Int32) else (1 : Int32)) → Go p e below (PostW s n0 room_1.cells room_1.slots (Q0 Z n0 h0 p1 p2 p3)) s₁ (mkF m 134 #[.val (.int p1), .val (.int p2), .val (.int p3), .val (.int va), .val (.int vb), .val (.int vc), .val (.int vd), .val (.int f1), .val (.int f2), .val (.int f3), .val (.int g1), .val (.int g2), .unset, .unset, .unset, .unset, .unset, .unset, .unset, .unset, .unset, .unset, .unset, .unset, .unset] [(.int g3)]) := by
              intro g3 h_g3
              refine Go.st (T' := s₁) (g' := (mkF m 136 #[.val (.int p1), .val (.int p2), .val (.int p3), .val (.int va), .val (.int vb), .val (.int vc), .val (.int vd), .val (.int f1), .val (.int f2), .val (.int f3), .val (.int g1), .val (.int g2), .val (.int g3), .unset, .unset, .unset, .unset, .unset, .unset, .unset, .unset, .unset, .unset, .unset, .unset] [])) (fun t_ k_ => XS.istore X0.here hx rfl (hb hby at_134) rfl (l' := #[.val (.int p1), .val (.int p2), .val (.int p3), .val (.int va), .val (.int vb), .val (.int vc), .val (.int vd), .val (.int f1), .val (.int f2), .val (.int f3), .val (.int g1), .val (.int g2), .val (.int g3), .unset, .unset, .unset, .unset, .unset, .unset, .unset, .unset, .unset, .unset, .unset, .unset]) rfl k_) ?_
              refine Go.st (T' := s₁) (g' := (mkF m 137 #[.val (.int p1), .val (.int p2), .val (.int p3), .val (.int va), .val (.int vb), .val (.int vc), .val (.int vd), .val (.int f1), .val (.int f2), .val (.int f3), .val (.int g1), .val (.int g2), .val (.int g3), .unset, .unset, .unset, .unset, .unset, .unset, .unset, .unset, .unset, .unset, .unset, .unset] [(.int p2)])) (fun t_ k_ => XS.iloadN X0.here hx rfl (hb hby at_136) rfl k_) ?_
              refine Go.st (T' := s₁) (g' := (mkF m 139 #[.val (.int p1), .val (.int p2), .val (.int p3), .val (.int va), .val (.int vb), .val (.int vc), .val (.int vd), .val (.int f1), .val (.int f2), .val (.int f3), .val (.int g1), .val (.int g2), .val (.int g3), .unset, .unset, .unset, .unset, .unset, .unset, .unset, .unset, .unset, .unset, .unset, .unset] [(.int (31 : Int32)), (.int p2)])) (fun t_ k_ => XS.bipush X0.here hx rfl (hb hby at_137) k_) ?_
              refine Go.st (T' := s₁) (g' := (mkF m 140 #[.val (.int p1), .val (.int p2), .val (.int p3), .val (.int va), .val (.int vb), .val (.int vc), .val (.int vd), .val (.int f1), .val (.int f2), .val (.int f3), .val (.int g1), .val (.int g2), .val (.int g3), .unset, .unset, .unset, .unset, .unset, .unset, .unset, .unset, .unset, .unset, .unset, .unset] [(.int (p2 &&& (31 : Int32)))])) (fun t_ k_ => XS.iand X0.here hx rfl (hb hby at_139) rfl k_) ?_
              refine Go.st (T' := s₁) (g' := (mkF m 142 #[.val (.int p1), .val (.int p2), .val (.int p3), .val (.int va), .val (.int vb), .val (.int vc), .val (.int vd), .val (.int f1), .val (.int f2), .val (.int f3), .val (.int g1), .val (.int g2), .val (.int g3), .val (.int (p2 &&& (31 : Int32))), .unset, .unset, .unset, .unset, .unset, .unset, .unset, .unset, .unset, .unset, .unset] [])) (fun t_ k_ => XS.istore X0.here hx rfl (hb hby at_140) rfl (l' := #[.val (.int p1), .val (.int p2), .val (.int p3), .val (.int va), .val (.int vb), .val (.int vc), .val (.int vd), .val (.int f1), .val (.int f2), .val (.int f3), .val (.int g1), .val (.int g2), .val (.int g3), .val (.int (p2 &&& (31 : Int32))), .unset, .unset, .unset, .unset, .unset, .unset, .unset, .unset, .unset, .unset, .unset]) rfl k_) ?_
              refine Go.st (T' := s₁) (g' := (mkF m 143 #[.val (.int p1), .val (.int p2), .val (.int p3), .val (.int va), .val (.int vb), .val (.int vc), .val (.int vd), .val (.int f1), .val (.int f2), .val (.int f3), .val (.int g1), .val (.int g2), .val (.int g3), .val (.int (p2 &&& (31 : Int32))), .unset, .unset, .unset, .unset, .unset, .unset, .unset, .unset, .unset, .unset, .unset] [(.int p2)])) (fun t_ k_ => XS.iloadN X0.here hx rfl (hb hby at_142) rfl k_) ?_
              refine Go.st (T' := s₁) (g' := (mkF m 144 #[.val (.int p1), .val (.int p2), .val (.int p3), .val (.int va), .val (.int vb), .val (.int vc), .val (.int vd), .val (.int f1), .val (.int f2), .val (.int f3), .val (.int g1), .val (.int g2), .val (.int g3), .val (.int (p2 &&& (31 : Int32))), .unset, .unset, .unset, .unset, .unset, .unset, .unset, .unset, .unset, .unset, .unset] [(.int (5 : Int32)), (.int p2)])) (fun t_ k_ => XS.iconst X0.here hx rfl (hb hby at_143) k_) ?_
              refine Go.st (T' := s₁) (g' := (mkF m 145 #[.val (.int p1), .val (.int p2), .val (.int p3), .val (.int va), .val (.int vb), .val (.int vc), .val (.int vd), .val (.int f1), .val (.int f2), .val (.int f3), .val (.int g1), .val (.int g2), .val (.int g3), .val (.int (p2 &&& (31 : Int32))), .unset, .unset, .unset, .unset, .unset, .unset, .unset, .unset, .unset, .unset, .unset] [(.int ((p2.toUInt32 >>> ((5 : Int32) &&& 31).toUInt32).toInt32))])) (fun t_ k_ => XS.iushr X0.here hx rfl (hb hby at_144) rfl k_) ?_
              refine Go.st (T' := s₁) (g' := (mkF m 147 #[.val (.int p1), .val (.int p2), .val (.int p3), .val (.int va), .val (.int vb), .val (.int vc), .val (.int vd), .val (.int f1), .val (.int f2), .val (.int f3), .val (.int g1), .val (.int g2), .val (.int g3), .val (.int (p2 &&& (31 : Int32))), .unset, .unset, .unset, .unset, .unset, .unset, .unset, .unset, .unset, .unset, .unset] [(.int (31 : Int32)), (.int ((p2.toUInt32 >>> ((5 : Int32) &&& 31).toUInt32).toInt32))])) (fun t_ k_ => XS.bipush X0.here hx rfl (hb hby at_145) k_) ?_
              refine Go.st (T' := s₁) (g' := (mkF m 148 #[.val (.int p1), .val (.int p2), .val (.int p3), .val (.int va), .val (.int vb), .val (.int vc), .val (.int vd), .val (.int f1), .val (.int f2), .val (.int f3), .val (.int g1), .val (.int g2), .val (.int g3), .val (.int (p2 &&& (31 : Int32))), .unset, .unset, .unset, .unset, .unset, .unset, .unset, .unset, .unset, .unset, .unset] [(.int (((p2.toUInt32 >>> ((5 : Int32) &&& 31).toUInt32).toInt32) &&& (31 : Int32)))])) (fun t_ k_ => XS.iand X0.here hx rfl (hb hby at_147) rfl k_) ?_
              refine Go.st (T' := s₁) (g' := (mkF m 150 #[.val (.int p1), .val (.int p2), .val (.int p3), .val (.int va), .val (.int vb), .val (.int vc), .val (.int vd), .val (.int f1), .val (.int f2), .val (.int f3), .val (.int g1), .val (.int g2), .val (.int g3), .val (.int (p2 &&& (31 : Int32))), .val (.int (((p2.toUInt32 >>> ((5 : Int32) &&& 31).toUInt32).toInt32) &&& (31 : Int32))), .unset, .unset, .unset, .unset, .unset, .unset, .unset, .unset, .unset, .unset] [])) (fun t_ k_ => XS.istore X0.here hx rfl (hb hby at_148) rfl (l' := #[.val (.int p1), .val (.int p2), .val (.int p3), .val (.int va), .val (.int vb), .val (.int vc), .val (.int vd), .val (.int f1), .val (.int f2), .val (.int f3), .val (.int g1), .val (.int g2), .val (.int g3), .val (.int (p2 &&& (31 : Int32))), .val (.int (((p2.toUInt32 >>> ((5 : Int32) &&& 31).toUInt32).toInt32) &&& (31 : Int32))), .unset, .unset, .unset, .unset, .unset, .unset, .unset, .unset, .unset, .unset]) rfl k_) ?_
              refine Go.st (T' := s₁) (g' := (mkF m 151 #[.val (.int p1), .val (.int p2), .val (.int p3), .val (.int va), .val (.int vb), .val (.int vc), .val (.int vd), .val (.int f1), .val (.int f2), .val (.int f3), .val (.int g1), .val (.int g2), .val (.int g3), .val (.int (p2 &&& (31 : Int32))), .val (.int (((p2.toUInt32 >>> ((5 : Int32) &&& 31).toUInt32).toInt32) &&& (31 : Int32))), .unset, .unset, .unset, .unset, .unset, .unset, .unset, .unset, .unset, .unset] [(.int p3)])) (fun t_ k_ => XS.iloadN X0.here hx rfl (hb hby at_150) rfl k_) ?_
              refine Go.st (T' := s₁) (g' := (mkF m 153 #[.val (.int p1), .val (.int p2), .val (.int p3), .val (.int va), .val (.int vb), .val (.int vc), .val (.int vd), .val (.int f1), .val (.int f2), .val (.int f3), .val (.int g1), .val (.int g2), .val (.int g3), .val (.int (p2 &&& (31 : Int32))), .val (.int (((p2.toUInt32 >>> ((5 : Int32) &&& 31).toUInt32).toInt32) &&& (31 : Int32))), .unset, .unset, .unset, .unset, .unset, .unset, .unset, .unset, .unset, .unset] [(.int (2147483647 : Int32)), (.int p3)])) (fun t_ k_ => Stn.ldcI X0 hx hZ hown (hw _ (List.mem_of_getElem? (i := 0) rfl)) (hb hby at_151) k_) ?_
              refine Go.st (T' := s₁) (g' := (mkF m 154 #[.val (.int p1), .val (.int p2), .val (.int p3), .val (.int va), .val (.int vb), .val (.int vc), .val (.int vd), .val (.int f1), .val (.int f2), .val (.int f3), .val (.int g1), .val (.int g2), .val (.int g3), .val (.int (p2 &&& (31 : Int32))), .val (.int (((p2.toUInt32 >>> ((5 : Int32) &&& 31).toUInt32).toInt32) &&& (31 : Int32))), .unset, .unset, .unset, .unset, .unset, .unset, .unset, .unset, .unset, .unset] [(.int (p3 &&& (2147483647 : Int32)))])) (fun t_ k_ => XS.iand X0.here hx rfl (hb hby at_153) rfl k_) ?_
              refine Go.st (T' := s₁) (g' := (mkF m 156 #[.val (.int p1), .val (.int p2), .val (.int p3), .val (.int va), .val (.int vb), .val (.int vc), .val (.int vd), .val (.int f1), .val (.int f2), .val (.int f3), .val (.int g1), .val (.int g2), .val (.int g3), .val (.int (p2 &&& (31 : Int32))), .val (.int (((p2.toUInt32 >>> ((5 : Int32) &&& 31).toUInt32).toInt32) &&& (31 : Int32))), .val (.int (p3 &&& (2147483647 : Int32))), .unset, .unset, .unset, .unset, .unset, .unset, .unset, .unset, .unset] [])) (fun t_ k_ => XS.istore X0.here hx rfl (hb hby at_154) rfl (l' := #[.val (.int p1), .val (.int p2), .val (.int p3), .val (.int va), .val (.int vb), .val (.int vc), .val (.int vd), .val (.int f1), .val (.int f2), .val (.int f3), .val (.int g1), .val (.int g2), .val (.int g3), .val (.int (p2 &&& (31 : Int32))), .val (.int (((p2.toUInt32 >>> ((5 : Int32) &&& 31).toUInt32).toInt32) &&& (31 : Int32))), .val (.int (p3 &&& (2147483647 : Int32))), .unset, .unset, .unset, .unset, .unset, .unset, .unset, .unset, .unset]) rfl k_) ?_
              have hvx := own_mk p2 31 (k := 5) (by decide) (by decide)
              generalize e_vx : (p2 &&& (31 : Int32)) = vx
              rw [e_vx] at hvx
              have hvy := own_mk ((p2.toUInt32 >>> ((5 : Int32) &&& 31).toUInt32).toInt32) 31 (k := 5) (by decide) (by decide)
              generalize e_vy : (((p2.toUInt32 >>> ((5 : Int32) &&& 31).toUInt32).toInt32) &&& (31 : Int32)) = vy
              rw [e_vy] at hvy
              have hvz := own_mk p3 2147483647 (k := 31) (by decide) (by decide)
              generalize e_vz : (p3 &&& (2147483647 : Int32)) = vz
              rw [e_vz] at hvz
              refine goNew X0 hx hZ hown (hw _ (List.mem_of_getElem? (i := 1) rfl)) (hw _ (List.mem_of_getElem? (i := 2) rfl)) (hw _ (List.mem_of_getElem? (i := 3) rfl)) (hb hby at_156) (by decide) (by decide) fun T7 h7 uf gb7 X7 E7 A7 D7 => ?_
              have ge7 : n0 ≤ uf := gb7 ▸ sz0
              have sz7 : n0 ≤ h7.size := Nat.le_trans sz0 E7.1
              have F7_parent : Fld Z h7 uf "com/example/cellsight/cellsight/analysis/UnionFind" "parent" "[I" .null := D7 (Or.inl (hw _ (List.mem_of_getElem? (i := 12) rfl))) (ty := (.array .int)) (by decide)
              have F7_rank : Fld Z h7 uf "com/example/cellsight/cellsight/analysis/UnionFind" "rank" "[I" .null := D7 (Or.inl (hw _ (List.mem_of_getElem? (i := 14) rfl))) (ty := (.array .int)) (by decide)
              show Go p e below _ T7 (mkF m 159 #[.val (.int p1), .val (.int p2), .val (.int p3), .val (.int va), .val (.int vb), .val (.int vc), .val (.int vd), .val (.int f1), .val (.int f2), .val (.int f3), .val (.int g1), .val (.int g2), .val (.int g3), .val (.int vx), .val (.int vy), .val (.int vz), .unset, .unset, .unset, .unset, .unset, .unset, .unset, .unset, .unset] [(.ref uf)])
              refine Go.st (T' := T7) (g' := (mkF m 160 #[.val (.int p1), .val (.int p2), .val (.int p3), .val (.int va), .val (.int vb), .val (.int vc), .val (.int vd), .val (.int f1), .val (.int f2), .val (.int f3), .val (.int g1), .val (.int g2), .val (.int g3), .val (.int vx), .val (.int vy), .val (.int vz), .unset, .unset, .unset, .unset, .unset, .unset, .unset, .unset, .unset] [(.ref uf), (.ref uf)])) (fun t_ k_ => XS.dup X7.here hx rfl (hb hby at_159) rfl rfl k_) ?_
              refine goCtor X7 hx hZ (y := (⟨"com/example/cellsight/cellsight/analysis/UnionFind", "<init>", "()V"⟩ : MethodName)) rfl hown (hw _ (List.mem_of_getElem? (i := 4) rfl)) (hw _ (List.mem_of_getElem? (i := 5) rfl)) (hw _ (List.mem_of_getElem? (i := 3) rfl)) (hw _ (List.mem_of_getElem? (i := 6) rfl)) (by decide) (rm1 l Z a0 hw [] n0 h7 uf .null .null sz7 A7 F7_parent F7_rank ge7) 1 (by decide) (by decide) (by rw [hml]; rfl) uf [] [(.ref uf)] (lenOf pd_0f51a560 rfl) rfl rfl rfl (hb hby at_160) (by decide) (by decide) fun v8 T8 h8 X8 hq8 => ?_
              obtain ⟨pA, kA, rfl, K8c, p8_0, p8_1, p8_2, p8_3, p8_4, p8_5, p8_6, p8_7, p8_8, p8_9⟩ := hq8
              have f8_1 : Exa Z h8 uf "com/example/cellsight/cellsight/analysis/UnionFind" := A7.keep K8c
              have sz8 : n0 ≤ h8.size := Nat.le_trans sz7 K8c.1
              show Go p e below _ T8 (mkF m 163 #[.val (.int p1), .val (.int p2), .val (.int p3), .val (.int va), .val (.int vb), .val (.int vc), .val (.int vd), .val (.int f1), .val (.int f2), .val (.int f3), .val (.int g1), .val (.int g2), .val (.int g3), .val (.int vx), .val (.int vy), .val (.int vz), .unset, .unset, .unset, .unset, .unset, .unset, .unset, .unset, .unset] [(.ref uf)])
              refine Go.st (T' := T8) (g' := (mkF m 165 #[.val (.int p1), .val (.int p2), .val (.int p3), .val (.int va), .val (.int vb), .val (.int vc), .val (.int vd), .val (.int f1), .val (.int f2), .val (.int f3), .val (.int g1), .val (.int g2), .val (.int g3), .val (.int vx), .val (.int vy), .val (.int vz), .val (.ref uf), .unset, .unset, .unset, .unset, .unset, .unset, .unset, .unset] [])) (fun t_ k_ => XS.astore X8.here hx rfl (hb hby at_163) rfl rfl (l' := #[.val (.int p1), .val (.int p2), .val (.int p3), .val (.int va), .val (.int vb), .val (.int vc), .val (.int vd), .val (.int f1), .val (.int f2), .val (.int f3), .val (.int g1), .val (.int g2), .val (.int g3), .val (.int vx), .val (.int vy), .val (.int vz), .val (.ref uf), .unset, .unset, .unset, .unset, .unset, .unset, .unset, .unset]) rfl k_) ?_
              refine Go.st (T' := T8) (g' := (mkF m 166 #[.val (.int p1), .val (.int p2), .val (.int p3), .val (.int va), .val (.int vb), .val (.int vc), .val (.int vd), .val (.int f1), .val (.int f2), .val (.int f3), .val (.int g1), .val (.int g2), .val (.int g3), .val (.int vx), .val (.int vy), .val (.int vz), .val (.ref uf), .unset, .unset, .unset, .unset, .unset, .unset, .unset, .unset] [(.int va)])) (fun t_ k_ => XS.iloadN X8.here hx rfl (hb hby at_165) rfl k_) ?_
              refine Go.st (T' := T8) (g' := (mkF m 168 #[.val (.int p1), .val (.int p2), .val (.int p3), .val (.int va), .val (.int vb), .val (.int vc), .val (.int vd), .val (.int f1), .val (.int f2), .val (.int f3), .val (.int g1), .val (.int g2), .val (.int g3), .val (.int vx), .val (.int vy), .val (.int vz), .val (.ref uf), .val (.int va), .unset, .unset, .unset, .unset, .unset, .unset, .unset] [])) (fun t_ k_ => XS.istore X8.here hx rfl (hb hby at_166) rfl (l' := #[.val (.int p1), .val (.int p2), .val (.int p3), .val (.int va), .val (.int vb), .val (.int vc), .val (.int vd), .val (.int f1), .val (.int f2), .val (.int f3), .val (.int g1), .val (.int g2), .val (.int g3), .val (.int vx), .val (.int vy), .val (.int vz), .val (.ref uf), .val (.int va), .unset, .unset, .unset, .unset, .unset, .unset, .unset]) rfl k_) ?_
              refine Go.st (T' := T8) (g' := (mkF m 170 #[.val (.int p1), .val (.int p2), .val (.int p3), .val (.int va), .val (.int vb), .val (.int vc), .val (.int vd), .val (.int f1), .val (.int f2), .val (.int f3), .val (.int g1), .val (.int g2), .val (.int g3), .val (.int vx), .val (.int vy), .val (.int vz), .val (.ref uf), .val (.int va), .unset, .unset, .unset, .unset, .unset, .unset, .unset] [(.int f1)])) (fun t_ k_ => XS.iload X8.here hx rfl (hb hby at_168) rfl k_) ?_
              have J199 : ∀ (r1 : Int32) (pA : Addr) (kA : Addr) (n : Nat) (par : Nat → Int32) (rk : Nat → Int32) (T_J199 : State) (h_J199 : Heap), Stn p l e room_1 s m #[(.int p1), (.int p2), (.int p3)] below meth c n0 T_J199 h_J199 5 94 → n0 ≤ h_J199.size → Exa Z h_J199 uf "com/example/cellsight/cellsight/analysis/UnionFind" → Fld Z h_J199 uf "com/example/cellsight/cellsight/analysis/UnionFind" "parent" "[I" (.ref pA) → Fld Z h_J199 uf "com/example/cellsight/cellsight/analysis/UnionFind" "rank" "[I" (.ref kA) → Exa Z h_J199 pA "[I" → Exa Z h_J199 kA "[I" → Ary Z h_J199 pA .int n (fun i => .int (par i)) → Ary Z h_J199 kA .int n (fun i => .int (rk i)) → n0 ≤ uf → n0 ≤ pA → n0 ≤ kA → pA ≠ kA → (own_S n par (own_R va vb vc vd f1 0 r1 vc)) → (n ≤ 46) → (r1 = va ∨ r1 = vb) → (f1 = 0 → r1 = va) → Go p e below (PostW s n0 room_1.cells room_1.slots (Q0 Z n0 h0 p1 p2 p3)) T_J199 (mkF m 199 #[.val (.int p1), .val (.int p2), .val (.int p3), .val (.int va), .val (.int vb), .val (.int vc), .val (.int vd), .val (.int f1), .val (.int f2), .val (.int f3), .val (.int g1), .val (.int g2), .val (.int g3), .val (.int vx), .val (.int vy), .val (.int vz), .val (.ref uf), .val (.int r1), .unset, .unset, .unset, .unset, .unset, .unset, .unset] []) := by
                intro r1 pA kA n par rk T_J199 h_J199 X_J199 sz_J199 g0_J199 g1_J199 g2_J199 g3_J199 g4_J199 g5_J199 g6_J199 g7_J199 g8_J199 g9_J199 g10_J199 hS1 hn1 hr1 hf1
                refine Go.st (T' := T_J199) (g' := (mkF m 201 #[.val (.int p1), .val (.int p2), .val (.int p3), .val (.int va), .val (.int vb), .val (.int vc), .val (.int vd), .val (.int f1), .val (.int f2), .val (.int f3), .val (.int g1), .val (.int g2), .val (.int g3), .val (.int vx), .val (.int vy), .val (.int vz), .val (.ref uf), .val (.int r1), .unset, .unset, .unset, .unset, .unset, .unset, .unset] [(.int vc)])) (fun t_ k_ => XS.iload X_J199.here hx rfl (hb hby at_199) rfl k_) ?_
                refine Go.st (T' := T_J199) (g' := (mkF m 203 #[.val (.int p1), .val (.int p2), .val (.int p3), .val (.int va), .val (.int vb), .val (.int vc), .val (.int vd), .val (.int f1), .val (.int f2), .val (.int f3), .val (.int g1), .val (.int g2), .val (.int g3), .val (.int vx), .val (.int vy), .val (.int vz), .val (.ref uf), .val (.int r1), .val (.int vc), .unset, .unset, .unset, .unset, .unset, .unset] [])) (fun t_ k_ => XS.istore X_J199.here hx rfl (hb hby at_201) rfl (l' := #[.val (.int p1), .val (.int p2), .val (.int p3), .val (.int va), .val (.int vb), .val (.int vc), .val (.int vd), .val (.int f1), .val (.int f2), .val (.int f3), .val (.int g1), .val (.int g2), .val (.int g3), .val (.int vx), .val (.int vy), .val (.int vz), .val (.ref uf), .val (.int r1), .val (.int vc), .unset, .unset, .unset, .unset, .unset, .unset]) rfl k_) ?_
                refine Go.st (T' := T_J199) (g' := (mkF m 205 #[.val (.int p1), .val (.int p2), .val (.int p3), .val (.int va), .val (.int vb), .val (.int vc), .val (.int vd), .val (.int f1), .val (.int f2), .val (.int f3), .val (.int g1), .val (.int g2), .val (.int g3), .val (.int vx), .val (.int vy), .val (.int vz), .val (.ref uf), .val (.int r1), .val (.int vc), .unset, .unset, .unset, .unset, .unset, .unset] [(.int f2)])) (fun t_ k_ => XS.iload X_J199.here hx rfl (hb hby at_203) rfl k_) ?_
                have J236 : ∀ (r2 : Int32) (pA : Addr) (kA : Addr) (n : Nat) (par : Nat → Int32) (rk : Nat → Int32) (T_J236 : State) (h_J236 : Heap), Stn p l e room_1 s m #[(.int p1), (.int p2), (.int p3)] below meth c n0 T_J236 h_J236 7 186 → n0 ≤ h_J236.size → Exa Z h_J236 uf "com/example/cellsight/cellsight/analysis/UnionFind" → Fld Z h_J236 uf "com/example/cellsight/cellsight/analysis/UnionFind" "parent" "[I" (.ref pA) → Fld Z h_J236 uf "com/example/cellsight/cellsight/analysis/UnionFind" "rank" "[I" (.ref kA) → Exa Z h_J236 pA "[I" → Exa Z h_J236 kA "[I" → Ary Z h_J236 pA .int n (fun i => .int (par i)) → Ary Z h_J236 kA .int n (fun i => .int (rk i)) → n0 ≤ uf → n0 ≤ pA → n0 ≤ kA → pA ≠ kA → (own_S n par (own_R va vb vc vd f1 f2 r1 r2)) → (n ≤ 46) → (r2 = vc ∨ r2 = vd) → (f2 = 0 → r2 = vc) → Go p e below (PostW s n0 room_1.cells room_1.slots (Q0 Z n0 h0 p1 p2 p3)) T_J236 (mkF m 236 #[.val (.int p1), .val (.int p2), .val (.int p3), .val (.int va), .val (.int vb), .val (.int vc), .val (.int vd), .val (.int f1), .val (.int f2), .val (.int f3), .val (.int g1), .val (.int g2), .val (.int g3), .val (.int vx), .val (.int vy), .val (.int vz), .val (.ref uf), .val (.int r1), .val (.int r2), .unset, .unset, .unset, .unset, .unset, .unset] []) := by
                  intro r2 pA kA n par rk T_J236 h_J236 X_J236 sz_J236 g0_J236 g1_J236 g2_J236 g3_J236 g4_J236 g5_J236 g6_J236 g7_J236 g8_J236 g9_J236 g10_J236 hS2 hn2 hr2 hf2
                  refine Go.st (T' := T_J236) (g' := (mkF m 238 #[.val (.int p1), .val (.int p2), .val (.int p3), .val (.int va), .val (.int vb), .val (.int vc), .val (.int vd), .val (.int f1), .val (.int f2), .val (.int f3), .val (.int g1), .val (.int g2), .val (.int g3), .val (.int vx), .val (.int vy), .val (.int vz), .val (.ref uf), .val (.int r1), .val (.int r2), .unset, .unset, .unset, .unset, .unset, .unset] [(.int r1)])) (fun t_ k_ => XS.iload X_J236.here hx rfl (hb hby at_236) rfl k_) ?_
                  refine Go.st (T' := T_J236) (g' := (mkF m 240 #[.val (.int p1), .val (.int p2), .val (.int p3), .val (.int va), .val (.int vb), .val (.int vc), .val (.int vd), .val (.int f1), .val (.int f2), .val (.int f3), .val (.int g1), .val (.int g2), .val (.int g3), .val (.int vx), .val (.int vy), .val (.int vz), .val (.ref uf), .val (.int r1), .val (.int r2), .val (.int r1), .unset, .unset, .unset, .unset, .unset] [])) (fun t_ k_ => XS.istore X_J236.here hx rfl (hb hby at_238) rfl (l' := #[.val (.int p1), .val (.int p2), .val (.int p3), .val (.int va), .val (.int vb), .val (.int vc), .val (.int vd), .val (.int f1), .val (.int f2), .val (.int f3), .val (.int g1), .val (.int g2), .val (.int g3), .val (.int vx), .val (.int vy), .val (.int vz), .val (.ref uf), .val (.int r1), .val (.int r2), .val (.int r1), .unset, .unset, .unset, .unset, .unset]) rfl k_) ?_
                  refine Go.st (T' := T_J236) (g' := (mkF m 242 #[.val (.int p1), .val (.int p2), .val (.int p3), .val (.int va), .val (.int vb), .val (.int vc), .val (.int vd), .val (.int f1), .val (.int f2), .val (.int f3), .val (.int g1), .val (.int g2), .val (.int g3), .val (.int vx), .val (.int vy), .val (.int vz), .val (.ref uf), .val (.int r1), .val (.int r2), .val (.int r1), .unset, .unset, .unset, .unset, .unset] [(.int r2)])) (fun t_ k_ => XS.iload X_J236.here hx rfl (hb hby at_240) rfl k_) ?_
                  refine Go.st (T' := T_J236) (g' := (mkF m 244 #[.val (.int p1), .val (.int p2), .val (.int p3), .val (.int va), .val (.int vb), .val (.int vc), .val (.int vd), .val (.int f1), .val (.int f2), .val (.int f3), .val (.int g1), .val (.int g2), .val (.int g3), .val (.int vx), .val (.int vy), .val (.int vz), .val (.ref uf), .val (.int r1), .val (.int r2), .val (.int r1), .val (.int r2), .unset, .unset, .unset, .unset] [])) (fun t_ k_ => XS.istore X_J236.here hx rfl (hb hby at_242) rfl (l' := #[.val (.int p1), .val (.int p2), .val (.int p3), .val (.int va), .val (.int vb), .val (.int vc), .val (.int vd), .val (.int f1), .val (.int f2), .val (.int f3), .val (.int g1), .val (.int g2), .val (.int g3), .val (.int vx), .val (.int vy), .val (.int vz), .val (.ref uf), .val (.int r1), .val (.int r2), .val (.int r1), .val (.int r2), .unset, .unset, .unset, .unset]) rfl k_) ?_
                  refine Go.st (T' := T_J236) (g' := (mkF m 246 #[.val (.int p1), .val (.int p2), .val (.int p3), .val (.int va), .val (.int vb), .val (.int vc), .val (.int vd), .val (.int f1), .val (.int f2), .val (.int f3), .val (.int g1), .val (.int g2), .val (.int g3), .val (.int vx), .val (.int vy), .val (.int vz), .val (.ref uf), .val (.int r1), .val (.int r2), .val (.int r1), .val (.int r2), .unset, .unset, .unset, .unset] [(.int f3)])) (fun t_ k_ => XS.iload X_J236.here hx rfl (hb hby at_244) rfl k_) ?_
                  have J285 : ∀ (rA : Int32) (rC : Int32) (s21 : Slot) (pA : Addr) (kA : Addr) (n : Nat) (par : Nat → Int32) (rk : Nat → Int32) (T_J285 : State) (h_J285 : Heap), Stn p l e room_1 s m #[(.int p1), (.int p2), (.int p3)] below meth c n0 T_J285 h_J285 9 278 → n0 ≤ h_J285.size → Exa Z h_J285 uf "com/example/cellsight/cellsight/analysis/UnionFind" → Fld Z h_J285 uf "com/example/cellsight/cellsight/analysis/UnionFind" "parent" "[I" (.ref pA) → Fld Z h_J285 uf "com/example/cellsight/cellsight/analysis/UnionFind" "rank" "[I" (.ref kA) → Exa Z h_J285 pA "[I" → Exa Z h_J285 kA "[I" → Ary Z h_J285 pA .int n (fun i => .int (par i)) → Ary Z h_J285 kA .int n (fun i => .int (rk i)) → n0 ≤ uf → n0 ≤ pA → n0 ≤ kA → pA ≠ kA → (own_S n par (own_R va vb vc vd f1 f2 rA rC)) → (n ≤ 46) → (¬ rA < 0) → (¬ rC < 0) → (s21 = .unset ∨ ∃ w, s21 = .val (.int w)) → Go p e below (PostW s n0 room_1.cells room_1.slots (Q0 Z n0 h0 p1 p2 p3)) T_J285 (mkF m 285 #[.val (.int p1), .val (.int p2), .val (.int p3), .val (.int va), .val (.int vb), .val (.int vc), .val (.int vd), .val (.int f1), .val (.int f2), .val (.int f3), .val (.int g1), .val (.int g2), .val (.int g3), .val (.int vx), .val (.int vy), .val (.int vz), .val (.ref uf), .val (.int r1), .val (.int r2), .val (.int rA), .val (.int rC), s21, .unset, .unset, .unset] []) := by
                    intro rA rC s21 pA kA n par rk T_J285 h_J285 X_J285 sz_J285 g0_J285 g1_J285 g2_J285 g3_J285 g4_J285 g5_J285 g6_J285 g7_J285 g8_J285 g9_J285 g10_J285 hS3 hn3 hA hC ht
                    rcases ht with rfl | ⟨w21, rfl⟩
                    · skip
                      refine Go.st (T' := T_J285) (g' := (mkF m 287 #[.val (.int p1), .val (.int p2), .val (.int p3), .val (.int va), .val (.int vb), .val (.int vc), .val (.int vd), .val (.int f1), .val (.int f2), .val (.int f3), .val (.int g1), .val (.int g2), .val (.int g3), .val (.int vx), .val (.int vy), .val (.int vz), .val (.ref uf), .val (.int r1), .val (.int r2), .val (.int rA), .val (.int rC), .unset, .unset, .unset, .unset] [(.ref uf)])) (fun t_ k_ => XS.aload X_J285.here hx rfl (hb hby at_285) rfl rfl k_) ?_
                      refine Go.st (T' := T_J285) (g' := (mkF m 289 #[.val (.int p1), .val (.int p2), .val (.int p3), .val (.int va), .val (.int vb), .val (.int vc), .val (.int vd), .val (.int f1), .val (.int f2), .val (.int f3), .val (.int g1), .val (.int g2), .val (.int g3), .val (.int vx), .val (.int vy), .val (.int vz), .val (.ref uf), .val (.int r1), .val (.int r2), .val (.int rA), .val (.int rC), .unset, .unset, .unset, .unset] [(.int vx), (.ref uf)])) (fun t_ k_ => XS.iload X_J285.here hx rfl (hb hby at_287) rfl k_) ?_
                      refine goVirtS X_J285 hx hZ (y := (⟨"com/example/cellsight/cellsight/analysis/UnionFind", "find", "(I)I"⟩ : MethodName)) hown (hw _ (List.mem_of_getElem? (i := 15) rfl)) (hw _ (List.mem_of_getElem? (i := 16) rfl)) (hw _ (List.mem_of_getElem? (i := 18) rfl)) (hw _ (List.mem_of_getElem? (i := 17) rfl)) (hw _ (List.mem_of_getElem? (i := 3) rfl)) (hw _ (List.mem_of_getElem? (i := 19) rfl)) (by decide) g0_J285 (rm3 l Z a0 hw [] n0 h_J285 uf vx pA n par (own_R va vb vc vd f1 f2 rA rC) sz_J285 g0_J285 g1_J285 g3_J285 g5_J285 g8_J285 (hS3) (hn3) (hvx)) 0 (by decide) (by decide) (by rw [hml]; rfl) [(.int vx)] [] (lenOf pd_70cf885d rfl) rfl rfl rfl (hb hby at_289) (by decide) (by decide) fun v9 T9 h9 X9 hq9 => ?_
                      obtain ⟨o0, par'_9, rfl, K9c, p9_0, hT0, t0⟩ := hq9
                      have f9_4 : Exa Z h9 uf "com/example/cellsight/cellsight/analysis/UnionFind" := g0_J285.keep K9c
                      have f9_5 : Fld Z h9 uf "com/example/cellsight/cellsight/analysis/UnionFind" "parent" "[I" (.ref pA) := g1_J285.keep K9c (ninS (ne_exa g0_J285 g3_J285 (by decide)) nin0)
                      have f9_6 : Fld Z h9 uf "com/example/cellsight/cellsight/analysis/UnionFind" "rank" "[I" (.ref kA) := g2_J285.keep K9c (ninS (ne_exa g0_J285 g3_J285 (by decide)) nin0)
                      have f9_7 : Exa Z h9 pA "[I" := g3_J285.keep K9c
                      have f9_8 : Exa Z h9 kA "[I" := g4_J285.keep K9c
                      have f9_9 : Ary Z h9 kA .int n (fun i => .int (rk i)) := g6_J285.keep K9c (ninS g10_J285.symm nin0)
                      have sz9 : n0 ≤ h9.size := Nat.le_trans sz_J285 K9c.1
                      show Go p e below _ T9 (mkF m 292 #[.val (.int p1), .val (.int p2), .val (.int p3), .val (.int va), .val (.int vb), .val (.int vc), .val (.int vd), .val (.int f1), .val (.int f2), .val (.int f3), .val (.int g1), .val (.int g2), .val (.int g3), .val (.int vx), .val (.int vy), .val (.int vz), .val (.ref uf), .val (.int r1), .val (.int r2), .val (.int rA), .val (.int rC), .unset, .unset, .unset, .unset] [(.int o0)])
                      refine Go.st (T' := T9) (g' := (mkF m 294 #[.val (.int p1), .val (.int p2), .val (.int p3), .val (.int va), .val (.int vb), .val (.int vc), .val (.int vd), .val (.int f1), .val (.int f2), .val (.int f3), .val (.int g1), .val (.int g2), .val (.int g3), .val (.int vx), .val (.int vy), .val (.int vz), .val (.ref uf), .val (.int r1), .val (.int r2), .val (.int rA), .val (.int rC), .val (.int o0), .unset, .unset, .unset] [])) (fun t_ k_ => XS.istore X9.here hx rfl (hb hby at_292) rfl (l' := #[.val (.int p1), .val (.int p2), .val (.int p3), .val (.int va), .val (.int vb), .val (.int vc), .val (.int vd), .val (.int f1), .val (.int f2), .val (.int f3), .val (.int g1), .val (.int g2), .val (.int g3), .val (.int vx), .val (.int vy), .val (.int vz), .val (.ref uf), .val (.int r1), .val (.int r2), .val (.int rA), .val (.int rC), .val (.int o0), .unset, .unset, .unset]) rfl k_) ?_
                      refine Go.st (T' := T9) (g' := (mkF m 296 #[.val (.int p1), .val (.int p2), .val (.int p3), .val (.int va), .val (.int vb), .val (.int vc), .val (.int vd), .val (.int f1), .val (.int f2), .val (.int f3), .val (.int g1), .val (.int g2), .val (.int g3), .val (.int vx), .val (.int vy), .val (.int vz), .val (.ref uf), .val (.int r1), .val (.int r2), .val (.int rA), .val (.int rC), .val (.int o0), .unset, .unset, .unset] [(.ref uf)])) (fun t_ k_ => XS.aload X9.here hx rfl (hb hby at_294) rfl rfl k_) ?_
                      refine Go.st (T' := T9) (g' := (mkF m 298 #[.val (.int p1), .val (.int p2), .val (.int p3), .val (.int va), .val (.int vb), .val (.int vc), .val (.int vd), .val (.int f1), .val (.int f2), .val (.int f3), .val (.int g1), .val (.int g2), .val (.int g3), .val (.int vx), .val (.int vy), .val (.int vz), .val (.ref uf), .val (.int r1), .val (.int r2), .val (.int rA), .val (.int rC), .val (.int o0), .unset, .unset, .unset] [(.int vy), (.ref uf)])) (fun t_ k_ => XS.iload X9.here hx rfl (hb hby at_296) rfl k_) ?_
                      refine goVirtS X9 hx hZ (y := (⟨"com/example/cellsight/cellsight/analysis/UnionFind", "find", "(I)I"⟩ : MethodName)) hown (hw _ (List.mem_of_getElem? (i := 15) rfl)) (hw _ (List.mem_of_getElem? (i := 16) rfl)) (hw _ (List.mem_of_getElem? (i := 18) rfl)) (hw _ (List.mem_of_getElem? (i := 17) rfl)) (hw _ (List.mem_of_getElem? (i := 3) rfl)) (hw _ (List.mem_of_getElem? (i := 19) rfl)) (by decide) f9_4 (rm3 l Z a0 hw [] n0 h9 uf vy pA n (fun i => (par'_9 i)) (own_R va vb vc vd f1 f2 rA rC) sz9 f9_4 f9_5 f9_7 p9_0 g8_J285 (hT0) (hn3) (hvy)) 0 (by decide) (by decide) (by rw [hml]; rfl) [(.int vy)] [] (lenOf pd_70cf885d rfl) rfl rfl rfl (hb hby at_298) (by decide) (by decide) fun v10 T10 h10 X10 hq10 => ?_
                      obtain ⟨o1, par'_10, rfl, K10c, p10_0, hT1, t1⟩ := hq10
                      have f10_4 : Exa Z h10 uf "com/example/cellsight/cellsight/analysis/UnionFind" := f9_4.keep K10c
                      have f10_5 : Fld Z h10 uf "com/example/cellsight/cellsight/analysis/UnionFind" "parent" "[I" (.ref pA) := f9_5.keep K10c (ninS (ne_exa f9_4 f9_7 (by decide)) nin0)
                      have f10_6 : Fld Z h10 uf "com/example/cellsight/cellsight/analysis/UnionFind" "rank" "[I" (.ref kA) := f9_6.keep K10c (ninS (ne_exa f9_4 f9_7 (by decide)) nin0)
                      have f10_7 : Exa Z h10 pA "[I" := f9_7.keep K10c
                      have f10_8 : Exa Z h10 kA "[I" := f9_8.keep K10c
                      have f10_9 : Ary Z h10 kA .int n (fun i => .int (rk i)) := f9_9.keep K10c (ninS g10_J285.symm nin0)
                      have sz10 : n0 ≤ h10.size := Nat.le_trans sz9 K10c.1
                      show Go p e below _ T10 (mkF m 301 #[.val (.int p1), .val (.int p2), .val (.int p3), .val (.int va), .val (.int vb), .val (.int vc), .val (.int vd), .val (.int f1), .val (.int f2), .val (.int f3), .val (.int g1), .val (.int g2), .val (.int g3), .val (.int vx), .val (.int vy), .val (.int vz), .val (.ref uf), .val (.int r1), .val (.int r2), .val (.int rA), .val (.int rC), .val (.int o0), .unset, .unset, .unset] [(.int o1)])
                      refine Go.st (T' := T10) (g' := (mkF m 303 #[.val (.int p1), .val (.int p2), .val (.int p3), .val (.int va), .val (.int vb), .val (.int vc), .val (.int vd), .val (.int f1), .val (.int f2), .val (.int f3), .val (.int g1), .val (.int g2), .val (.int g3), .val (.int vx), .val (.int vy), .val (.int vz), .val (.ref uf), .val (.int r1), .val (.int r2), .val (.int rA), .val (.int rC), .val (.int o0), .val (.int o1), .unset, .unset] [])) (fun t_ k_ => XS.istore X10.here hx rfl (hb hby at_301) rfl (l' := #[.val (.int p1), .val (.int p2), .val (.int p3), .val (.int va), .val (.int vb), .val (.int vc), .val (.int vd), .val (.int f1), .val (.int f2), .val (.int f3), .val (.int g1), .val (.int g2), .val (.int g3), .val (.int vx), .val (.int vy), .val (.int vz), .val (.ref uf), .val (.int r1), .val (.int r2), .val (.int rA), .val (.int rC), .val (.int o0), .val (.int o1), .unset, .unset]) rfl k_) ?_
                      refine Go.st (T' := T10) (g' := (mkF m 305 #[.val (.int p1), .val (.int p2), .val (.int p3), .val (.int va), .val (.int vb), .val (.int vc), .val (.int vd), .val (.int f1), .val (.int f2), .val (.int f3), .val (.int g1), .val (.int g2), .val (.int g3), .val (.int vx), .val (.int vy), .val (.int vz), .val (.ref uf), .val (.int r1), .val (.int r2), .val (.int rA), .val (.int rC), .val (.int o0), .val (.int o1), .unset, .unset] [(.ref uf)])) (fun t_ k_ => XS.aload X10.here hx rfl (hb hby at_303) rfl rfl k_) ?_
                      refine Go.st (T' := T10) (g' := (mkF m 307 #[.val (.int p1), .val (.int p2), .val (.int p3), .val (.int va), .val (.int vb), .val (.int vc), .val (.int vd), .val (.int f1), .val (.int f2), .val (.int f3), .val (.int g1), .val (.int g2), .val (.int g3), .val (.int vx), .val (.int vy), .val (.int vz), .val (.ref uf), .val (.int r1), .val (.int r2), .val (.int rA), .val (.int rC), .val (.int o0), .val (.int o1), .unset, .unset] [(.int vz), (.ref uf)])) (fun t_ k_ => XS.iload X10.here hx rfl (hb hby at_305) rfl k_) ?_
                      refine goVirtS X10 hx hZ (y := (⟨"com/example/cellsight/cellsight/analysis/UnionFind", "find", "(I)I"⟩ : MethodName)) hown (hw _ (List.mem_of_getElem? (i := 15) rfl)) (hw _ (List.mem_of_getElem? (i := 16) rfl)) (hw _ (List.mem_of_getElem? (i := 18) rfl)) (hw _ (List.mem_of_getElem? (i := 17) rfl)) (hw _ (List.mem_of_getElem? (i := 3) rfl)) (hw _ (List.mem_of_getElem? (i := 19) rfl)) (by decide) f10_4 (rm3 l Z a0 hw [] n0 h10 uf vz pA n (fun i => (par'_10 i)) (own_R va vb vc vd f1 f2 rA rC) sz10 f10_4 f10_5 f10_7 p10_0 g8_J285 (hT1) (hn3) (hvz)) 0 (by decide) (by decide) (by rw [hml]; rfl) [(.int vz)] [] (lenOf pd_70cf885d rfl) rfl rfl rfl (hb hby at_307) (by decide) (by decide) fun v11 T11 h11 X11 hq11 => ?_
                      obtain ⟨o2, par'_11, rfl, K11c, p11_0, hT2, t2⟩ := hq11
                      have f11_4 : Exa Z h11 uf "com/example/cellsight/cellsight/analysis/UnionFind" := f10_4.keep K11c
                      have f11_5 : Fld Z h11 uf "com/example/cellsight/cellsight/analysis/UnionFind" "parent" "[I" (.ref pA) := f10_5.keep K11c (ninS (ne_exa f10_4 f10_7 (by decide)) nin0)
                      have f11_6 : Fld Z h11 uf "com/example/cellsight/cellsight/analysis/UnionFind" "rank" "[I" (.ref kA) := f10_6.keep K11c (ninS (ne_exa f10_4 f10_7 (by decide)) nin0)
                      have f11_7 : Exa Z h11 pA "[I" := f10_7.keep K11c
                      have f11_8 : Exa Z h11 kA "[I" := f10_8.keep K11c
                      have f11_9 : Ary Z h11 kA .int n (fun i => .int (rk i)) := f10_9.keep K11c (ninS g10_J285.symm nin0)
                      have sz11 : n0 ≤ h11.size := Nat.le_trans sz10 K11c.1
                      show Go p e below _ T11 (mkF m 310 #[.val (.int p1), .val (.int p2), .val (.int p3), .val (.int va), .val (.int vb), .val (.int vc), .val (.int vd), .val (.int f1), .val (.int f2), .val (.int f3), .val (.int g1), .val (.int g2), .val (.int g3), .val (.int vx), .val (.int vy), .val (.int vz), .val (.ref uf), .val (.int r1), .val (.int r2), .val (.int rA), .val (.int rC), .val (.int o0), .val (.int o1), .unset, .unset] [(.int o2)])
                      refine Go.st (T' := T11) (g' := (mkF m 312 #[.val (.int p1), .val (.int p2), .val (.int p3), .val (.int va), .val (.int vb), .val (.int vc), .val (.int vd), .val (.int f1), .val (.int f2), .val (.int f3), .val (.int g1), .val (.int g2), .val (.int g3), .val (.int vx), .val (.int vy), .val (.int vz), .val (.ref uf), .val (.int r1), .val (.int r2), .val (.int rA), .val (.int rC), .val (.int o0), .val (.int o1), .val (.int o2), .unset] [])) (fun t_ k_ => XS.istore X11.here hx rfl (hb hby at_310) rfl (l' := #[.val (.int p1), .val (.int p2), .val (.int p3), .val (.int va), .val (.int vb), .val (.int vc), .val (.int vd), .val (.int f1), .val (.int f2), .val (.int f3), .val (.int g1), .val (.int g2), .val (.int g3), .val (.int vx), .val (.int vy), .val (.int vz), .val (.ref uf), .val (.int r1), .val (.int r2), .val (.int rA), .val (.int rC), .val (.int o0), .val (.int o1), .val (.int o2), .unset]) rfl k_) ?_
                      refine Go.st (T' := T11) (g' := (mkF m 314 #[.val (.int p1), .val (.int p2), .val (.int p3), .val (.int va), .val (.int vb), .val (.int vc), .val (.int vd), .val (.int f1), .val (.int f2), .val (.int f3), .val (.int g1), .val (.int g2), .val (.int g3), .val (.int vx), .val (.int vy), .val (.int vz), .val (.ref uf), .val (.int r1), .val (.int r2), .val (.int rA), .val (.int rC), .val (.int o0), .val (.int o1), .val (.int o2), .unset] [(.ref uf)])) (fun t_ k_ => XS.aload X11.here hx rfl (hb hby at_312) rfl rfl k_) ?_
                      refine Go.st (T' := T11) (g' := (mkF m 316 #[.val (.int p1), .val (.int p2), .val (.int p3), .val (.int va), .val (.int vb), .val (.int vc), .val (.int vd), .val (.int f1), .val (.int f2), .val (.int f3), .val (.int g1), .val (.int g2), .val (.int g3), .val (.int vx), .val (.int vy), .val (.int vz), .val (.ref uf), .val (.int r1), .val (.int r2), .val (.int rA), .val (.int rC), .val (.int o0), .val (.int o1), .val (.int o2), .unset] [(.int vx), (.ref uf)])) (fun t_ k_ => XS.iload X11.here hx rfl (hb hby at_314) rfl k_) ?_
                      refine goVirtS X11 hx hZ (y := (⟨"com/example/cellsight/cellsight/analysis/UnionFind", "find", "(I)I"⟩ : MethodName)) hown (hw _ (List.mem_of_getElem? (i := 15) rfl)) (hw _ (List.mem_of_getElem? (i := 16) rfl)) (hw _ (List.mem_of_getElem? (i := 18) rfl)) (hw _ (List.mem_of_getElem? (i := 17) rfl)) (hw _ (List.mem_of_getElem? (i := 3) rfl)) (hw _ (List.mem_of_getElem? (i := 19) rfl)) (by decide) f11_4 (rm3 l Z a0 hw [] n0 h11 uf vx pA n (fun i => (par'_11 i)) (own_R va vb vc vd f1 f2 rA rC) sz11 f11_4 f11_5 f11_7 p11_0 g8_J285 (hT2) (hn3) (hvx)) 0 (by decide) (by decide) (by rw [hml]; rfl) [(.int vx)] [] (lenOf pd_70cf885d rfl) rfl rfl rfl (hb hby at_316) (by decide) (by decide) fun v12 T12 h12 X12 hq12 => ?_
                      obtain ⟨o3, par'_12, rfl, K12c, p12_0, hT3, t3⟩ := hq12
                      have f12_4 : Exa Z h12 uf "com/example/cellsight/cellsight/analysis/UnionFind" := f11_4.keep K12c
                      have f12_5 : Fld Z h12 uf "com/example/cellsight/cellsight/analysis/UnionFind" "parent" "[I" (.ref pA) := f11_5.keep K12c (ninS (ne_exa f11_4 f11_7 (by decide)) nin0)
                      have f12_6 : Fld Z h12 uf "com/example/cellsight/cellsight/analysis/UnionFind" "rank" "[I" (.ref kA) := f11_6.keep K12c (ninS (ne_exa f11_4 f11_7 (by decide)) nin0)
                      have f12_7 : Exa Z h12 pA "[I" := f11_7.keep K12c
                      have f12_8 : Exa Z h12 kA "[I" := f11_8.keep K12c
                      have f12_9 : Ary Z h12 kA .int n (fun i => .int (rk i)) := f11_9.keep K12c (ninS g10_J285.symm nin0)
                      have sz12 : n0 ≤ h12.size := Nat.le_trans sz11 K12c.1
                      show Go p e below _ T12 (mkF m 319 #[.val (.int p1), .val (.int p2), .val (.int p3), .val (.int va), .val (.int vb), .val (.int vc), .val (.int vd), .val (.int f1), .val (.int f2), .val (.int f3), .val (.int g1), .val (.int g2), .val (.int g3), .val (.int vx), .val (.int vy), .val (.int vz), .val (.ref uf), .val (.int r1), .val (.int r2), .val (.int rA), .val (.int rC), .val (.int o0), .val (.int o1), .val (.int o2), .unset] [(.int o3)])
                      refine Go.st (T' := T12) (g' := (mkF m 321 #[.val (.int p1), .val (.int p2), .val (.int p3), .val (.int va), .val (.int vb), .val (.int vc), .val (.int vd), .val (.int f1), .val (.int f2), .val (.int f3), .val (.int g1), .val (.int g2), .val (.int g3), .val (.int vx), .val (.int vy), .val (.int vz), .val (.ref uf), .val (.int r1), .val (.int r2), .val (.int rA), .val (.int rC), .val (.int o0), .val (.int o1), .val (.int o2), .val (.int o3)] [])) (fun t_ k_ => XS.istore X12.here hx rfl (hb hby at_319) rfl (l' := #[.val (.int p1), .val (.int p2), .val (.int p3), .val (.int va), .val (.int vb), .val (.int vc), .val (.int vd), .val (.int f1), .val (.int f2), .val (.int f3), .val (.int g1), .val (.int g2), .val (.int g3), .val (.int vx), .val (.int vy), .val (.int vz), .val (.ref uf), .val (.int r1), .val (.int r2), .val (.int rA), .val (.int rC), .val (.int o0), .val (.int o1), .val (.int o2), .val (.int o3)]) rfl k_) ?_
                      refine Go.st (T' := T12) (g' := (mkF m 323 #[.val (.int p1), .val (.int p2), .val (.int p3), .val (.int va), .val (.int vb), .val (.int vc), .val (.int vd), .val (.int f1), .val (.int f2), .val (.int f3), .val (.int g1), .val (.int g2), .val (.int g3), .val (.int vx), .val (.int vy), .val (.int vz), .val (.ref uf), .val (.int r1), .val (.int r2), .val (.int rA), .val (.int rC), .val (.int o0), .val (.int o1), .val (.int o2), .val (.int o3)] [(.int o0)])) (fun t_ k_ => XS.iload X12.here hx rfl (hb hby at_321) rfl k_) ?_
                      refine Go.st (T' := T12) (g' := (mkF m 325 #[.val (.int p1), .val (.int p2), .val (.int p3), .val (.int va), .val (.int vb), .val (.int vc), .val (.int vd), .val (.int f1), .val (.int f2), .val (.int f3), .val (.int g1), .val (.int g2), .val (.int g3), .val (.int vx), .val (.int vy), .val (.int vz), .val (.ref uf), .val (.int r1), .val (.int r2), .val (.int rA), .val (.int rC), .val (.int o0), .val (.int o1), .val (.int o2), .val (.int o3)] [(.int vx), (.int o0)])) (fun t_ k_ => XS.iload X12.here hx rfl (hb hby at_323) rfl k_) ?_
                      refine Go.st (T' := T12) (g' := (mkF m 326 #[.val (.int p1), .val (.int p2), .val (.int p3), .val (.int va), .val (.int vb), .val (.int vc), .val (.int vd), .val (.int f1), .val (.int f2), .val (.int f3), .val (.int g1), .val (.int g2), .val (.int g3), .val (.int vx), .val (.int vy), .val (.int vz), .val (.ref uf), .val (.int r1), .val (.int r2), .val (.int rA), .val (.int rC), .val (.int o0), .val (.int o1), .val (.int o2), .val (.int o3)] [(.int va), (.int vx), (.int o0)])) (fun t_ k_ => XS.iloadN X12.here hx rfl (hb hby at_325) rfl k_) ?_
                      refine Go.st (T' := T12) (g' := (mkF m 328 #[.val (.int p1), .val (.int p2), .val (.int p3), .val (.int va), .val (.int vb), .val (.int vc), .val (.int vd), .val (.int f1), .val (.int f2), .val (.int f3), .val (.int g1), .val (.int g2), .val (.int g3), .val (.int vx), .val (.int vy), .val (.int vz), .val (.ref uf), .val (.int r1), .val (.int r2), .val (.int rA), .val (.int rC), .val (.int o0), .val (.int o1), .val (.int o2), .val (.int o3)] [(.int vb), (.int va), (.int vx), (.int o0)])) (fun t_ k_ => XS.iload X12.here hx rfl (hb hby at_326) rfl k_) ?_
                      refine Go.st (T' := T12) (g' := (mkF m 330 #[.val (.int p1), .val (.int p2), .val (.int p3), .val (.int va), .val (.int vb), .val (.int vc), .val (.int vd), .val (.int f1), .val (.int f2), .val (.int f3), .val (.int g1), .val (.int g2), .val (.int g3), .val (.int vx), .val (.int vy), .val (.int vz), .val (.ref uf), .val (.int r1), .val (.int r2), .val (.int rA), .val (.int rC), .val (.int o0), .val (.int o1), .val (.int o2), .val (.int o3)] [(.int vc), (.int vb), (.int va), (.int vx), (.int o0)])) (fun t_ k_ => XS.iload X12.here hx rfl (hb hby at_328) rfl k_) ?_
                      refine Go.st (T' := T12) (g' := (mkF m 332 #[.val (.int p1), .val (.int p2), .val (.int p3), .val (.int va), .val (.int vb), .val (.int vc), .val (.int vd), .val (.int f1), .val (.int f2), .val (.int f3), .val (.int g1), .val (.int g2), .val (.int g3), .val (.int vx), .val (.int vy), .val (.int vz), .val (.ref uf), .val (.int r1), .val (.int r2), .val (.int rA), .val (.int rC), .val (.int o0), .val (.int o1), .val (.int o2), .val (.int o3)] [(.int vd), (.int vc), (.int vb), (.int va), (.int vx), (.int o0)])) (fun t_ k_ => XS.iload X12.here hx rfl (hb hby at_330) rfl k_) ?_
                      refine Go.st (T' := T12) (g' := (mkF m 334 #[.val (.int p1), .val (.int p2), .val (.int p3), .val (.int va), .val (.int vb), .val (.int vc), .val (.int vd), .val (.int f1), .val (.int f2), .val (.int f3), .val (.int g1), .val (.int g2), .val (.int g3), .val (.int vx), .val (.int vy), .val (.int vz), .val (.ref uf), .val (.int r1), .val (.int r2), .val (.int rA), .val (.int rC), .val (.int o0), .val (.int o1), .val (.int o2), .val (.int o3)] [(.int f1), (.int vd), (.int vc), (.int vb), (.int va), (.int vx), (.int o0)])) (fun t_ k_ => XS.iload X12.here hx rfl (hb hby at_332) rfl k_) ?_
                      refine Go.st (T' := T12) (g' := (mkF m 336 #[.val (.int p1), .val (.int p2), .val (.int p3), .val (.int va), .val (.int vb), .val (.int vc), .val (.int vd), .val (.int f1), .val (.int f2), .val (.int f3), .val (.int g1), .val (.int g2), .val (.int g3), .val (.int vx), .val (.int vy), .val (.int vz), .val (.ref uf), .val (.int r1), .val (.int r2), .val (.int rA), .val (.int rC), .val (.int o0), .val (.int o1), .val (.int o2), .val (.int o3)] [(.int f2), (.int f1), (.int vd), (.int vc), (.int vb), (.int va), (.int vx), (.int o0)])) (fun t_ k_ => XS.iload X12.here hx rfl (hb hby at_334) rfl k_) ?_
                      refine Go.st (T' := T12) (g' := (mkF m 338 #[.val (.int p1), .val (.int p2), .val (.int p3), .val (.int va), .val (.int vb), .val (.int vc), .val (.int vd), .val (.int f1), .val (.int f2), .val (.int f3), .val (.int g1), .val (.int g2), .val (.int g3), .val (.int vx), .val (.int vy), .val (.int vz), .val (.ref uf), .val (.int r1), .val (.int r2), .val (.int rA), .val (.int rC), .val (.int o0), .val (.int o1), .val (.int o2), .val (.int o3)] [(.int rA), (.int f2), (.int f1), (.int vd), (.int vc), (.int vb), (.int va), (.int vx), (.int o0)])) (fun t_ k_ => XS.iload X12.here hx rfl (hb hby at_336) rfl k_) ?_
                      refine Go.st (T' := T12) (g' := (mkF m 340 #[.val (.int p1), .val (.int p2), .val (.int p3), .val (.int va), .val (.int vb), .val (.int vc), .val (.int vd), .val (.int f1), .val (.int f2), .val (.int f3), .val (.int g1), .val (.int g2), .val (.int g3), .val (.int vx), .val (.int vy), .val (.int vz), .val (.ref uf), .val (.int r1), .val (.int r2), .val (.int rA), .val (.int rC), .val (.int o0), .val (.int o1), .val (.int o2), .val (.int o3)] [(.int rC), (.int rA), (.int f2), (.int f1), (.int vd), (.int vc), (.int vb), (.int va), (.int vx), (.int o0)])) (fun t_ k_ => XS.iload X12.here hx rfl (hb hby at_338) rfl k_) ?_
                      refine goStatic X12 hx hZ (y := (⟨"com/example/cellsight/cellsight/analysis/UnionFindFindPinLaw", "expected", "(IIIIIZZII)I"⟩ : MethodName)) hown (hw _ (List.mem_of_getElem? (i := 20) rfl)) (hw _ (List.mem_of_getElem? (i := 21) rfl)) (hw _ (List.mem_of_getElem? (i := 22) rfl)) (hw _ (List.mem_of_getElem? (i := 23) rfl)) (by decide) (rm4 l Z a0 hw [] n0 h12 vx va vb vc vd f1 f2 rA rC sz12) 1 (by decide) (by decide) (by rw [hml]; rfl) [(.int vx), (.int va), (.int vb), (.int vc), (.int vd), (.int f1), (.int f2), (.int rA), (.int rC)] [(.int o0)] (lenOf pd_32950785 rfl) rfl rfl rfl (hb hby at_340) (by decide) (by decide) fun v13 T13 h13 X13 hq13 => ?_
                      obtain ⟨x0, rfl, eh13, u0⟩ := hq13
                      rw [eh13] at X13
                      show Go p e below _ T13 (mkF m 343 #[.val (.int p1), .val (.int p2), .val (.int p3), .val (.int va), .val (.int vb), .val (.int vc), .val (.int vd), .val (.int f1), .val (.int f2), .val (.int f3), .val (.int g1), .val (.int g2), .val (.int g3), .val (.int vx), .val (.int vy), .val (.int vz), .val (.ref uf), .val (.int r1), .val (.int r2), .val (.int rA), .val (.int rC), .val (.int o0), .val (.int o1), .val (.int o2), .val (.int o3)] [(.int x0), (.int o0)])
                      have hc343 : o0 = x0 := by rw [u0]; exact own_fin t0 hvx h4.1.1 h4.2.1.1 h4.2.2.1.1 h4.2.2.2.1 hA hC
                      refine Go.st (T' := T13) (g' := (mkF m 346 #[.val (.int p1), .val (.int p2), .val (.int p3), .val (.int va), .val (.int vb), .val (.int vc), .val (.int vd), .val (.int f1), .val (.int f2), .val (.int f3), .val (.int g1), .val (.int g2), .val (.int g3), .val (.int vx), .val (.int vy), .val (.int vz), .val (.ref uf), .val (.int r1), .val (.int r2), .val (.int rA), .val (.int rC), .val (.int o0), .val (.int o1), .val (.int o2), .val (.int o3)] [])) (fun t_ k_ => XS.icmpNo X13.here hx rfl (hb hby at_343) rfl (teq hc343).2 k_) ?_
                      refine Go.st (T' := T13) (g' := (mkF m 348 #[.val (.int p1), .val (.int p2), .val (.int p3), .val (.int va), .val (.int vb), .val (.int vc), .val (.int vd), .val (.int f1), .val (.int f2), .val (.int f3), .val (.int g1), .val (.int g2), .val (.int g3), .val (.int vx), .val (.int vy), .val (.int vz), .val (.ref uf), .val (.int r1), .val (.int r2), .val (.int rA), .val (.int rC), .val (.int o0), .val (.int o1), .val (.int o2), .val (.int o3)] [(.int o1)])) (fun t_ k_ => XS.iload X13.here hx rfl (hb hby at_346) rfl k_) ?_
                      refine Go.st (T' := T13) (g' := (mkF m 350 #[.val (.int p1), .val (.int p2), .val (.int p3), .val (.int va), .val (.int vb), .val (.int vc), .val (.int vd), .val (.int f1), .val (.int f2), .val (.int f3), .val (.int g1), .val (.int g2), .val (.int g3), .val (.int vx), .val (.int vy), .val (.int vz), .val (.ref uf), .val (.int r1), .val (.int r2), .val (.int rA), .val (.int rC), .val (.int o0), .val (.int o1), .val (.int o2), .val (.int o3)] [(.int vy), (.int o1)])) (fun t_ k_ => XS.iload X13.here hx rfl (hb hby at_348) rfl k_) ?_
                      refine Go.st (T' := T13) (g' := (mkF m 351 #[.val (.int p1), .val (.int p2), .val (.int p3), .val (.int va), .val (.int vb), .val (.int vc), .val (.int vd), .val (.int f1), .val (.int f2), .val (.int f3), .val (.int g1), .val (.int g2), .val (.int g3), .val (.int vx), .val (.int vy), .val (.int vz), .val (.ref uf), .val (.int r1), .val (.int r2), .val (.int rA), .val (.int rC), .val (.int o0), .val (.int o1), .val (.int o2), .val (.int o3)] [(.int va), (.int vy), (.int o1)])) (fun t_ k_ => XS.iloadN X13.here hx rfl (hb hby at_350) rfl k_) ?_
                      refine Go.st (T' := T13) (g' := (mkF m 353 #[.val (.int p1), .val (.int p2), .val (.int p3), .val (.int va), .val (.int vb), .val (.int vc), .val (.int vd), .val (.int f1), .val (.int f2), .val (.int f3), .val (.int g1), .val (.int g2), .val (.int g3), .val (.int vx), .val (.int vy), .val (.int vz), .val (.ref uf), .val (.int r1), .val (.int r2), .val (.int rA), .val (.int rC), .val (.int o0), .val (.int o1), .val (.int o2), .val (.int o3)] [(.int vb), (.int va), (.int vy), (.int o1)])) (fun t_ k_ => XS.iload X13.here hx rfl (hb hby at_351) rfl k_) ?_
                      refine Go.st (T' := T13) (g' := (mkF m 355 #[.val (.int p1), .val (.int p2), .val (.int p3), .val (.int va), .val (.int vb), .val (.int vc), .val (.int vd), .val (.int f1), .val (.int f2), .val (.int f3), .val (.int g1), .val (.int g2), .val (.int g3), .val (.int vx), .val (.int vy), .val (.int vz), .val (.ref uf), .val (.int r1), .val (.int r2), .val (.int rA), .val (.int rC), .val (.int o0), .val (.int o1), .val (.int o2), .val (.int o3)] [(.int vc), (.int vb), (.int va), (.int vy), (.int o1)])) (fun t_ k_ => XS.iload X13.here hx rfl (hb hby at_353) rfl k_) ?_
                      refine Go.st (T' := T13) (g' := (mkF m 357 #[.val (.int p1), .val (.int p2), .val (.int p3), .val (.int va), .val (.int vb), .val (.int vc), .val (.int vd), .val (.int f1), .val (.int f2), .val (.int f3), .val (.int g1), .val (.int g2), .val (.int g3), .val (.int vx), .val (.int vy), .val (.int vz), .val (.ref uf), .val (.int r1), .val (.int r2), .val (.int rA), .val (.int rC), .val (.int o0), .val (.int o1), .val (.int o2), .val (.int o3)] [(.int vd), (.int vc), (.int vb), (.int va), (.int vy), (.int o1)])) (fun t_ k_ => XS.iload X13.here hx rfl (hb hby at_355) rfl k_) ?_
                      refine Go.st (T' := T13) (g' := (mkF m 359 #[.val (.int p1), .val (.int p2), .val (.int p3), .val (.int va), .val (.int vb), .val (.int vc), .val (.int vd), .val (.int f1), .val (.int f2), .val (.int f3), .val (.int g1), .val (.int g2), .val (.int g3), .val (.int vx), .val (.int vy), .val (.int vz), .val (.ref uf), .val (.int r1), .val (.int r2), .val (.int rA), .val (.int rC), .val (.int o0), .val (.int o1), .val (.int o2), .val (.int o3)] [(.int f1), (.int vd), (.int vc), (.int vb), (.int va), (.int vy), (.int o1)])) (fun t_ k_ => XS.iload X13.here hx rfl (hb hby at_357) rfl k_) ?_
                      refine Go.st (T' := T13) (g' := (mkF m 361 #[.val (.int p1), .val (.int p2), .val (.int p3), .val (.int va), .val (.int vb), .val (.int vc), .val (.int vd), .val (.int f1), .val (.int f2), .val (.int f3), .val (.int g1), .val (.int g2), .val (.int g3), .val (.int vx), .val (.int vy), .val (.int vz), .val (.ref uf), .val (.int r1), .val (.int r2), .val (.int rA), .val (.int rC), .val (.int o0), .val (.int o1), .val (.int o2), .val (.int o3)] [(.int f2), (.int f1), (.int vd), (.int vc), (.int vb), (.int va), (.int vy), (.int o1)])) (fun t_ k_ => XS.iload X13.here hx rfl (hb hby at_359) rfl k_) ?_
                      refine Go.st (T' := T13) (g' := (mkF m 363 #[.val (.int p1), .val (.int p2), .val (.int p3), .val (.int va), .val (.int vb), .val (.int vc), .val (.int vd), .val (.int f1), .val (.int f2), .val (.int f3), .val (.int g1), .val (.int g2), .val (.int g3), .val (.int vx), .val (.int vy), .val (.int vz), .val (.ref uf), .val (.int r1), .val (.int r2), .val (.int rA), .val (.int rC), .val (.int o0), .val (.int o1), .val (.int o2), .val (.int o3)] [(.int rA), (.int f2), (.int f1), (.int vd), (.int vc), (.int vb), (.int va), (.int vy), (.int o1)])) (fun t_ k_ => XS.iload X13.here hx rfl (hb hby at_361) rfl k_) ?_
                      refine Go.st (T' := T13) (g' := (mkF m 365 #[.val (.int p1), .val (.int p2), .val (.int p3), .val (.int va), .val (.int vb), .val (.int vc), .val (.int vd), .val (.int f1), .val (.int f2), .val (.int f3), .val (.int g1), .val (.int g2), .val (.int g3), .val (.int vx), .val (.int vy), .val (.int vz), .val (.ref uf), .val (.int r1), .val (.int r2), .val (.int rA), .val (.int rC), .val (.int o0), .val (.int o1), .val (.int o2), .val (.int o3)] [(.int rC), (.int rA), (.int f2), (.int f1), (.int vd), (.int vc), (.int vb), (.int va), (.int vy), (.int o1)])) (fun t_ k_ => XS.iload X13.here hx rfl (hb hby at_363) rfl k_) ?_
                      refine goStatic X13 hx hZ (y := (⟨"com/example/cellsight/cellsight/analysis/UnionFindFindPinLaw", "expected", "(IIIIIZZII)I"⟩ : MethodName)) hown (hw _ (List.mem_of_getElem? (i := 20) rfl)) (hw _ (List.mem_of_getElem? (i := 21) rfl)) (hw _ (List.mem_of_getElem? (i := 22) rfl)) (hw _ (List.mem_of_getElem? (i := 23) rfl)) (by decide) (rm4 l Z a0 hw [] n0 h12 vy va vb vc vd f1 f2 rA rC sz12) 1 (by decide) (by decide) (by rw [hml]; rfl) [(.int vy), (.int va), (.int vb), (.int vc), (.int vd), (.int f1), (.int f2), (.int rA), (.int rC)] [(.int o1)] (lenOf pd_32950785 rfl) rfl rfl rfl (hb hby at_365) (by decide) (by decide) fun v14 T14 h14 X14 hq14 => ?_
                      obtain ⟨x1, rfl, eh14, u1⟩ := hq14
                      rw [eh14] at X14
                      show Go p e below _ T14 (mkF m 368 #[.val (.int p1), .val (.int p2), .val (.int p3), .val (.int va), .val (.int vb), .val (.int vc), .val (.int vd), .val (.int f1), .val (.int f2), .val (.int f3), .val (.int g1), .val (.int g2), .val (.int g3), .val (.int vx), .val (.int vy), .val (.int vz), .val (.ref uf), .val (.int r1), .val (.int r2), .val (.int rA), .val (.int rC), .val (.int o0), .val (.int o1), .val (.int o2), .val (.int o3)] [(.int x1), (.int o1)])
                      have hc368 : o1 = x1 := by rw [u1]; exact own_fin t1 hvy h4.1.1 h4.2.1.1 h4.2.2.1.1 h4.2.2.2.1 hA hC
                      refine Go.st (T' := T14) (g' := (mkF m 371 #[.val (.int p1), .val (.int p2), .val (.int p3), .val (.int va), .val (.int vb), .val (.int vc), .val (.int vd), .val (.int f1), .val (.int f2), .val (.int f3), .val (.int g1), .val (.int g2), .val (.int g3), .val (.int vx), .val (.int vy), .val (.int vz), .val (.ref uf), .val (.int r1), .val (.int r2), .val (.int rA), .val (.int rC), .val (.int o0), .val (.int o1), .val (.int o2), .val (.int o3)] [])) (fun t_ k_ => XS.icmpNo X14.here hx rfl (hb hby at_368) rfl (teq hc368).2 k_) ?_
                      refine Go.st (T' := T14) (g' := (mkF m 373 #[.val (.int p1), .val (.int p2), .val (.int p3), .val (.int va), .val (.int vb), .val (.int vc), .val (.int vd), .val (.int f1), .val (.int f2), .val (.int f3), .val (.int g1), .val (.int g2), .val (.int g3), .val (.int vx), .val (.int vy), .val (.int vz), .val (.ref uf), .val (.int r1), .val (.int r2), .val (.int rA), .val (.int rC), .val (.int o0), .val (.int o1), .val (.int o2), .val (.int o3)] [(.int o2)])) (fun t_ k_ => XS.iload X14.here hx rfl (hb hby at_371) rfl k_) ?_
                      refine Go.st (T' := T14) (g' := (mkF m 375 #[.val (.int p1), .val (.int p2), .val (.int p3), .val (.int va), .val (.int vb), .val (.int vc), .val (.int vd), .val (.int f1), .val (.int f2), .val (.int f3), .val (.int g1), .val (.int g2), .val (.int g3), .val (.int vx), .val (.int vy), .val (.int vz), .val (.ref uf), .val (.int r1), .val (.int r2), .val (.int rA), .val (.int rC), .val (.int o0), .val (.int o1), .val (.int o2), .val (.int o3)] [(.int vz), (.int o2)])) (fun t_ k_ => XS.iload X14.here hx rfl (hb hby at_373) rfl k_) ?_
                      refine Go.st (T' := T14) (g' := (mkF m 376 #[.val (.int p1), .val (.int p2), .val (.int p3), .val (.int va), .val (.int vb), .val (.int vc), .val (.int vd), .val (.int f1), .val (.int f2), .val (.int f3), .val (.int g1), .val (.int g2), .val (.int g3), .val (.int vx), .val (.int vy), .val (.int vz), .val (.ref uf), .val (.int r1), .val (.int r2), .val (.int rA), .val (.int rC), .val (.int o0), .val (.int o1), .val (.int o2), .val (.int o3)] [(.int va), (.int vz), (.int o2)])) (fun t_ k_ => XS.iloadN X14.here hx rfl (hb hby at_375) rfl k_) ?_
                      refine Go.st (T' := T14) (g' := (mkF m 378 #[.val (.int p1), .val (.int p2), .val (.int p3), .val (.int va), .val (.int vb), .val (.int vc), .val (.int vd), .val (.int f1), .val (.int f2), .val (.int f3), .val (.int g1), .val (.int g2), .val (.int g3), .val (.int vx), .val (.int vy), .val (.int vz), .val (.ref uf), .val (.int r1), .val (.int r2), .val (.int rA), .val (.int rC), .val (.int o0), .val (.int o1), .val (.int o2), .val (.int o3)] [(.int vb), (.int va), (.int vz), (.int o2)])) (fun t_ k_ => XS.iload X14.here hx rfl (hb hby at_376) rfl k_) ?_
                      refine Go.st (T' := T14) (g' := (mkF m 380 #[.val (.int p1), .val (.int p2), .val (.int p3), .val (.int va), .val (.int vb), .val (.int vc), .val (.int vd), .val (.int f1), .val (.int f2), .val (.int f3), .val (.int g1), .val (.int g2), .val (.int g3), .val (.int vx), .val (.int vy), .val (.int vz), .val (.ref uf), .val (.int r1), .val (.int r2), .val (.int rA), .val (.int rC), .val (.int o0), .val (.int o1), .val (.int o2), .val (.int o3)] [(.int vc), (.int vb), (.int va), (.int vz), (.int o2)])) (fun t_ k_ => XS.iload X14.here hx rfl (hb hby at_378) rfl k_) ?_
                      refine Go.st (T' := T14) (g' := (mkF m 382 #[.val (.int p1), .val (.int p2), .val (.int p3), .val (.int va), .val (.int vb), .val (.int vc), .val (.int vd), .val (.int f1), .val (.int f2), .val (.int f3), .val (.int g1), .val (.int g2), .val (.int g3), .val (.int vx), .val (.int vy), .val (.int vz), .val (.ref uf), .val (.int r1), .val (.int r2), .val (.int rA), .val (.int rC), .val (.int o0), .val (.int o1), .val (.int o2), .val (.int o3)] [(.int vd), (.int vc), (.int vb), (.int va), (.int vz), (.int o2)])) (fun t_ k_ => XS.iload X14.here hx rfl (hb hby at_380) rfl k_) ?_
                      refine Go.st (T' := T14) (g' := (mkF m 384 #[.val (.int p1), .val (.int p2), .val (.int p3), .val (.int va), .val (.int vb), .val (.int vc), .val (.int vd), .val (.int f1), .val (.int f2), .val (.int f3), .val (.int g1), .val (.int g2), .val (.int g3), .val (.int vx), .val (.int vy), .val (.int vz), .val (.ref uf), .val (.int r1), .val (.int r2), .val (.int rA), .val (.int rC), .val (.int o0), .val (.int o1), .val (.int o2), .val (.int o3)] [(.int f1), (.int vd), (.int vc), (.int vb), (.int va), (.int vz), (.int o2)])) (fun t_ k_ => XS.iload X14.here hx rfl (hb hby at_382) rfl k_) ?_
                      refine Go.st (T' := T14) (g' := (mkF m 386 #[.val (.int p1), .val (.int p2), .val (.int p3), .val (.int va), .val (.int vb), .val (.int vc), .val (.int vd), .val (.int f1), .val (.int f2), .val (.int f3), .val (.int g1), .val (.int g2), .val (.int g3), .val (.int vx), .val (.int vy), .val (.int vz), .val (.ref uf), .val (.int r1), .val (.int r2), .val (.int rA), .val (.int rC), .val (.int o0), .val (.int o1), .val (.int o2), .val (.int o3)] [(.int f2), (.int f1), (.int vd), (.int vc), (.int vb), (.int va), (.int vz), (.int o2)])) (fun t_ k_ => XS.iload X14.here hx rfl (hb hby at_384) rfl k_) ?_
                      refine Go.st (T' := T14) (g' := (mkF m 388 #[.val (.int p1), .val (.int p2), .val (.int p3), .val (.int va), .val (.int vb), .val (.int vc), .val (.int vd), .val (.int f1), .val (.int f2), .val (.int f3), .val (.int g1), .val (.int g2), .val (.int g3), .val (.int vx), .val (.int vy), .val (.int vz), .val (.ref uf), .val (.int r1), .val (.int r2), .val (.int rA), .val (.int rC), .val (.int o0), .val (.int o1), .val (.int o2), .val (.int o3)] [(.int rA), (.int f2), (.int f1), (.int vd), (.int vc), (.int vb), (.int va), (.int vz), (.int o2)])) (fun t_ k_ => XS.iload X14.here hx rfl (hb hby at_386) rfl k_) ?_
                      refine Go.st (T' := T14) (g' := (mkF m 390 #[.val (.int p1), .val (.int p2), .val (.int p3), .val (.int va), .val (.int vb), .val (.int vc), .val (.int vd), .val (.int f1), .val (.int f2), .val (.int f3), .val (.int g1), .val (.int g2), .val (.int g3), .val (.int vx), .val (.int vy), .val (.int vz), .val (.ref uf), .val (.int r1), .val (.int r2), .val (.int rA), .val (.int rC), .val (.int o0), .val (.int o1), .val (.int o2), .val (.int o3)] [(.int rC), (.int rA), (.int f2), (.int f1), (.int vd), (.int vc), (.int vb), (.int va), (.int vz), (.int o2)])) (fun t_ k_ => XS.iload X14.here hx rfl (hb hby at_388) rfl k_) ?_
                      refine goStatic X14 hx hZ (y := (⟨"com/example/cellsight/cellsight/analysis/UnionFindFindPinLaw", "expected", "(IIIIIZZII)I"⟩ : MethodName)) hown (hw _ (List.mem_of_getElem? (i := 20) rfl)) (hw _ (List.mem_of_getElem? (i := 21) rfl)) (hw _ (List.mem_of_getElem? (i := 22) rfl)) (hw _ (List.mem_of_getElem? (i := 23) rfl)) (by decide) (rm4 l Z a0 hw [] n0 h12 vz va vb vc vd f1 f2 rA rC sz12) 1 (by decide) (by decide) (by rw [hml]; rfl) [(.int vz), (.int va), (.int vb), (.int vc), (.int vd), (.int f1), (.int f2), (.int rA), (.int rC)] [(.int o2)] (lenOf pd_32950785 rfl) rfl rfl rfl (hb hby at_390) (by decide) (by decide) fun v15 T15 h15 X15 hq15 => ?_
                      obtain ⟨x2, rfl, eh15, u2⟩ := hq15
                      rw [eh15] at X15
                      show Go p e below _ T15 (mkF m 393 #[.val (.int p1), .val (.int p2), .val (.int p3), .val (.int va), .val (.int vb), .val (.int vc), .val (.int vd), .val (.int f1), .val (.int f2), .val (.int f3), .val (.int g1), .val (.int g2), .val (.int g3), .val (.int vx), .val (.int vy), .val (.int vz), .val (.ref uf), .val (.int r1), .val (.int r2), .val (.int rA), .val (.int rC), .val (.int o0), .val (.int o1), .val (.int o2), .val (.int o3)] [(.int x2), (.int o2)])
                      have hc393 : o2 = x2 := by rw [u2]; exact own_fin t2 hvz h4.1.1 h4.2.1.1 h4.2.2.1.1 h4.2.2.2.1 hA hC
                      refine Go.st (T' := T15) (g' := (mkF m 396 #[.val (.int p1), .val (.int p2), .val (.int p3), .val (.int va), .val (.int vb), .val (.int vc), .val (.int vd), .val (.int f1), .val (.int f2), .val (.int f3), .val (.int g1), .val (.int g2), .val (.int g3), .val (.int vx), .val (.int vy), .val (.int vz), .val (.ref uf), .val (.int r1), .val (.int r2), .val (.int rA), .val (.int rC), .val (.int o0), .val (.int o1), .val (.int o2), .val (.int o3)] [])) (fun t_ k_ => XS.icmpNo X15.here hx rfl (hb hby at_393) rfl (teq hc393).2 k_) ?_
                      refine Go.st (T' := T15) (g' := (mkF m 398 #[.val (.int p1), .val (.int p2), .val (.int p3), .val (.int va), .val (.int vb), .val (.int vc), .val (.int vd), .val (.int f1), .val (.int f2), .val (.int f3), .val (.int g1), .val (.int g2), .val (.int g3), .val (.int vx), .val (.int vy), .val (.int vz), .val (.ref uf), .val (.int r1), .val (.int r2), .val (.int rA), .val (.int rC), .val (.int o0), .val (.int o1), .val (.int o2), .val (.int o3)] [(.int o3)])) (fun t_ k_ => XS.iload X15.here hx rfl (hb hby at_396) rfl k_) ?_
                      refine Go.st (T' := T15) (g' := (mkF m 400 #[.val (.int p1), .val (.int p2), .val (.int p3), .val (.int va), .val (.int vb), .val (.int vc), .val (.int vd), .val (.int f1), .val (.int f2), .val (.int f3), .val (.int g1), .val (.int g2), .val (.int g3), .val (.int vx), .val (.int vy), .val (.int vz), .val (.ref uf), .val (.int r1), .val (.int r2), .val (.int rA), .val (.int rC), .val (.int o0), .val (.int o1), .val (.int o2), .val (.int o3)] [(.int vx), (.int o3)])) (fun t_ k_ => XS.iload X15.here hx rfl (hb hby at_398) rfl k_) ?_
                      refine Go.st (T' := T15) (g' := (mkF m 401 #[.val (.int p1), .val (.int p2), .val (.int p3), .val (.int va), .val (.int vb), .val (.int vc), .val (.int vd), .val (.int f1), .val (.int f2), .val (.int f3), .val (.int g1), .val (.int g2), .val (.int g3), .val (.int vx), .val (.int vy), .val (.int vz), .val (.ref uf), .val (.int r1), .val (.int r2), .val (.int rA), .val (.int rC), .val (.int o0), .val (.int o1), .val (.int o2), .val (.int o3)] [(.int va), (.int vx), (.int o3)])) (fun t_ k_ => XS.iloadN X15.here hx rfl (hb hby at_400) rfl k_) ?_
                      refine Go.st (T' := T15) (g' := (mkF m 403 #[.val (.int p1), .val (.int p2), .val (.int p3), .val (.int va), .val (.int vb), .val (.int vc), .val (.int vd), .val (.int f1), .val (.int f2), .val (.int f3), .val (.int g1), .val (.int g2), .val (.int g3), .val (.int vx), .val (.int vy), .val (.int vz), .val (.ref uf), .val (.int r1), .val (.int r2), .val (.int rA), .val (.int rC), .val (.int o0), .val (.int o1), .val (.int o2), .val (.int o3)] [(.int vb), (.int va), (.int vx), (.int o3)])) (fun t_ k_ => XS.iload X15.here hx rfl (hb hby at_401) rfl k_) ?_
                      refine Go.st (T' := T15) (g' := (mkF m 405 #[.val (.int p1), .val (.int p2), .val (.int p3), .val (.int va), .val (.int vb), .val (.int vc), .val (.int vd), .val (.int f1), .val (.int f2), .val (.int f3), .val (.int g1), .val (.int g2), .val (.int g3), .val (.int vx), .val (.int vy), .val (.int vz), .val (.ref uf), .val (.int r1), .val (.int r2), .val (.int rA), .val (.int rC), .val (.int o0), .val (.int o1), .val (.int o2), .val (.int o3)] [(.int vc), (.int vb), (.int va), (.int vx), (.int o3)])) (fun t_ k_ => XS.iload X15.here hx rfl (hb hby at_403) rfl k_) ?_
                      refine Go.st (T' := T15) (g' := (mkF m 407 #[.val (.int p1), .val (.int p2), .val (.int p3), .val (.int va), .val (.int vb), .val (.int vc), .val (.int vd), .val (.int f1), .val (.int f2), .val (.int f3), .val (.int g1), .val (.int g2), .val (.int g3), .val (.int vx), .val (.int vy), .val (.int vz), .val (.ref uf), .val (.int r1), .val (.int r2), .val (.int rA), .val (.int rC), .val (.int o0), .val (.int o1), .val (.int o2), .val (.int o3)] [(.int vd), (.int vc), (.int vb), (.int va), (.int vx), (.int o3)])) (fun t_ k_ => XS.iload X15.here hx rfl (hb hby at_405) rfl k_) ?_
                      refine Go.st (T' := T15) (g' := (mkF m 409 #[.val (.int p1), .val (.int p2), .val (.int p3), .val (.int va), .val (.int vb), .val (.int vc), .val (.int vd), .val (.int f1), .val (.int f2), .val (.int f3), .val (.int g1), .val (.int g2), .val (.int g3), .val (.int vx), .val (.int vy), .val (.int vz), .val (.ref uf), .val (.int r1), .val (.int r2), .val (.int rA), .val (.int rC), .val (.int o0), .val (.int o1), .val (.int o2), .val (.int o3)] [(.int f1), (.int vd), (.int vc), (.int vb), (.int va), (.int vx), (.int o3)])) (fun t_ k_ => XS.iload X15.here hx rfl (hb hby at_407) rfl k_) ?_
                      refine Go.st (T' := T15) (g' := (mkF m 411 #[.val (.int p1), .val (.int p2), .val (.int p3), .val (.int va), .val (.int vb), .val (.int vc), .val (.int vd), .val (.int f1), .val (.int f2), .val (.int f3), .val (.int g1), .val (.int g2), .val (.int g3), .val (.int vx), .val (.int vy), .val (.int vz), .val (.ref uf), .val (.int r1), .val (.int r2), .val (.int rA), .val (.int rC), .val (.int o0), .val (.int o1), .val (.int o2), .val (.int o3)] [(.int f2), (.int f1), (.int vd), (.int vc), (.int vb), (.int va), (.int vx), (.int o3)])) (fun t_ k_ => XS.iload X15.here hx rfl (hb hby at_409) rfl k_) ?_
                      refine Go.st (T' := T15) (g' := (mkF m 413 #[.val (.int p1), .val (.int p2), .val (.int p3), .val (.int va), .val (.int vb), .val (.int vc), .val (.int vd), .val (.int f1), .val (.int f2), .val (.int f3), .val (.int g1), .val (.int g2), .val (.int g3), .val (.int vx), .val (.int vy), .val (.int vz), .val (.ref uf), .val (.int r1), .val (.int r2), .val (.int rA), .val (.int rC), .val (.int o0), .val (.int o1), .val (.int o2), .val (.int o3)] [(.int rA), (.int f2), (.int f1), (.int vd), (.int vc), (.int vb), (.int va), (.int vx), (.int o3)])) (fun t_ k_ => XS.iload X15.here hx rfl (hb hby at_411) rfl k_) ?_
                      refine Go.st (T' := T15) (g' := (mkF m 415 #[.val (.int p1), .val (.int p2), .val (.int p3), .val (.int va), .val (.int vb), .val (.int vc), .val (.int vd), .val (.int f1), .val (.int f2), .val (.int f3), .val (.int g1), .val (.int g2), .val (.int g3), .val (.int vx), .val (.int vy), .val (.int vz), .val (.ref uf), .val (.int r1), .val (.int r2), .val (.int rA), .val (.int rC), .val (.int o0), .val (.int o1), .val (.int o2), .val (.int o3)] [(.int rC), (.int rA), (.int f2), (.int f1), (.int vd), (.int vc), (.int vb), (.int va), (.int vx), (.int o3)])) (fun t_ k_ => XS.iload X15.here hx rfl (hb hby at_413) rfl k_) ?_
                      refine goStatic X15 hx hZ (y := (⟨"com/example/cellsight/cellsight/analysis/UnionFindFindPinLaw", "expected", "(IIIIIZZII)I"⟩ : MethodName)) hown (hw _ (List.mem_of_getElem? (i := 20) rfl)) (hw _ (List.mem_of_getElem? (i := 21) rfl)) (hw _ (List.mem_of_getElem? (i := 22) rfl)) (hw _ (List.mem_of_getElem? (i := 23) rfl)) (by decide) (rm4 l Z a0 hw [] n0 h12 vx va vb vc vd f1 f2 rA rC sz12) 1 (by decide) (by decide) (by rw [hml]; rfl) [(.int vx), (.int va), (.int vb), (.int vc), (.int vd), (.int f1), (.int f2), (.int rA), (.int rC)] [(.int o3)] (lenOf pd_32950785 rfl) rfl rfl rfl (hb hby at_415) (by decide) (by decide) fun v16 T16 h16 X16 hq16 => ?_
                      obtain ⟨x3, rfl, eh16, u3⟩ := hq16
                      rw [eh16] at X16
                      show Go p e below _ T16 (mkF m 418 #[.val (.int p1), .val (.int p2), .val (.int p3), .val (.int va), .val (.int vb), .val (.int vc), .val (.int vd), .val (.int f1), .val (.int f2), .val (.int f3), .val (.int g1), .val (.int g2), .val (.int g3), .val (.int vx), .val (.int vy), .val (.int vz), .val (.ref uf), .val (.int r1), .val (.int r2), .val (.int rA), .val (.int rC), .val (.int o0), .val (.int o1), .val (.int o2), .val (.int o3)] [(.int x3), (.int o3)])
                      have hc418 : o3 = x3 := by rw [u3]; exact own_fin t3 hvx h4.1.1 h4.2.1.1 h4.2.2.1.1 h4.2.2.2.1 hA hC
                      refine Go.st (T' := T16) (g' := (mkF m 421 #[.val (.int p1), .val (.int p2), .val (.int p3), .val (.int va), .val (.int vb), .val (.int vc), .val (.int vd), .val (.int f1), .val (.int f2), .val (.int f3), .val (.int g1), .val (.int g2), .val (.int g3), .val (.int vx), .val (.int vy), .val (.int vz), .val (.ref uf), .val (.int r1), .val (.int r2), .val (.int rA), .val (.int rC), .val (.int o0), .val (.int o1), .val (.int o2), .val (.int o3)] [])) (fun t_ k_ => XS.icmpNo X16.here hx rfl (hb hby at_418) rfl (teq hc418).2 k_) ?_
                      refine Go.st (T' := T16) (g' := (mkF m 422 #[.val (.int p1), .val (.int p2), .val (.int p3), .val (.int va), .val (.int vb), .val (.int vc), .val (.int vd), .val (.int f1), .val (.int f2), .val (.int f3), .val (.int g1), .val (.int g2), .val (.int g3), .val (.int vx), .val (.int vy), .val (.int vz), .val (.ref uf), .val (.int r1), .val (.int r2), .val (.int rA), .val (.int rC), .val (.int o0), .val (.int o1), .val (.int o2), .val (.int o3)] [(.int (1 : Int32))])) (fun t_ k_ => XS.iconst X16.here hx rfl (hb hby at_421) k_) ?_
                      refine Go.st (T' := T16) (g' := (mkF m 426 #[.val (.int p1), .val (.int p2), .val (.int p3), .val (.int va), .val (.int vb), .val (.int vc), .val (.int vd), .val (.int f1), .val (.int f2), .val (.int f3), .val (.int g1), .val (.int g2), .val (.int g3), .val (.int vx), .val (.int vy), .val (.int vz), .val (.ref uf), .val (.int r1), .val (.int r2), .val (.int rA), .val (.int rC), .val (.int o0), .val (.int o1), .val (.int o2), .val (.int o3)] [(.int (1 : Int32))])) (fun t_ k_ => XS.goto X16.here hx rfl (pc0 := 422) (pc' := 426) rfl (hb hby at_422) (by decide) (by decide) k_) ?_
                      refine goRetZ X16 hx hlk hret (hb hby at_426) (by decide) (by decide) (Or.inr rfl) ?_
                      exact rfl
                    · skip
                      refine Go.st (T' := T_J285) (g' := (mkF m 287 #[.val (.int p1), .val (.int p2), .val (.int p3), .val (.int va), .val (.int vb), .val (.int vc), .val (.int vd), .val (.int f1), .val (.int f2), .val (.int f3), .val (.int g1), .val (.int g2), .val (.int g3), .val (.int vx), .val (.int vy), .val (.int vz), .val (.ref uf), .val (.int r1), .val (.int r2), .val (.int rA), .val (.int rC), .val (.int w21), .unset, .unset, .unset] [(.ref uf)])) (fun t_ k_ => XS.aload X_J285.here hx rfl (hb hby at_285) rfl rfl k_) ?_
                      refine Go.st (T' := T_J285) (g' := (mkF m 289 #[.val (.int p1), .val (.int p2), .val (.int p3), .val (.int va), .val (.int vb), .val (.int vc), .val (.int vd), .val (.int f1), .val (.int f2), .val (.int f3), .val (.int g1), .val (.int g2), .val (.int g3), .val (.int vx), .val (.int vy), .val (.int vz), .val (.ref uf), .val (.int r1), .val (.int r2), .val (.int rA), .val (.int rC), .val (.int w21), .unset, .unset, .unset] [(.int vx), (.ref uf)])) (fun t_ k_ => XS.iload X_J285.here hx rfl (hb hby at_287) rfl k_) ?_
                      refine goVirtS X_J285 hx hZ (y := (⟨"com/example/cellsight/cellsight/analysis/UnionFind", "find", "(I)I"⟩ : MethodName)) hown (hw _ (List.mem_of_getElem? (i := 15) rfl)) (hw _ (List.mem_of_getElem? (i := 16) rfl)) (hw _ (List.mem_of_getElem? (i := 18) rfl)) (hw _ (List.mem_of_getElem? (i := 17) rfl)) (hw _ (List.mem_of_getElem? (i := 3) rfl)) (hw _ (List.mem_of_getElem? (i := 19) rfl)) (by decide) g0_J285 (rm3 l Z a0 hw [] n0 h_J285 uf vx pA n par (own_R va vb vc vd f1 f2 rA rC) sz_J285 g0_J285 g1_J285 g3_J285 g5_J285 g8_J285 (hS3) (hn3) (hvx)) 0 (by decide) (by decide) (by rw [hml]; rfl) [(.int vx)] [] (lenOf pd_70cf885d rfl) rfl rfl rfl (hb hby at_289) (by decide) (by decide) fun v17 T17 h17 X17 hq17 => ?_
                      obtain ⟨o0, par'_17, rfl, K17c, p17_0, hT0, t0⟩ := hq17
                      have f17_4 : Exa Z h17 uf "com/example/cellsight/cellsight/analysis/UnionFind" := g0_J285.keep K17c
                      have f17_5 : Fld Z h17 uf "com/example/cellsight/cellsight/analysis/UnionFind" "parent" "[I" (.ref pA) := g1_J285.keep K17c (ninS (ne_exa g0_J285 g3_J285 (by decide)) nin0)
                      have f17_6 : Fld Z h17 uf "com/example/cellsight/cellsight/analysis/UnionFind" "rank" "[I" (.ref kA) := g2_J285.keep K17c (ninS (ne_exa g0_J285 g3_J285 (by decide)) nin0)
                      have f17_7 : Exa Z h17 pA "[I" := g3_J285.keep K17c
                      have f17_8 : Exa Z h17 kA "[I" := g4_J285.keep K17c
                      have f17_9 : Ary Z h17 kA .int n (fun i => .int (rk i)) := g6_J285.keep K17c (ninS g10_J285.symm nin0)
                      have sz17 : n0 ≤ h17.size := Nat.le_trans sz_J285 K17c.1
                      show Go p e below _ T17 (mkF m 292 #[.val (.int p1), .val (.int p2), .val (.int p3), .val (.int va), .val (.int vb), .val (.int vc), .val (.int vd), .val (.int f1), .val (.int f2), .val (.int f3), .val (.int g1), .val (.int g2), .val (.int g3), .val (.int vx), .val (.int vy), .val (.int vz), .val (.ref uf), .val (.int r1), .val (.int r2), .val (.int rA), .val (.int rC), .val (.int w21), .unset, .unset, .unset] [(.int o0)])
                      refine Go.st (T' := T17) (g' := (mkF m 294 #[.val (.int p1), .val (.int p2), .val (.int p3), .val (.int va), .val (.int vb), .val (.int vc), .val (.int vd), .val (.int f1), .val (.int f2), .val (.int f3), .val (.int g1), .val (.int g2), .val (.int g3), .val (.int vx), .val (.int vy), .val (.int vz), .val (.ref uf), .val (.int r1), .val (.int r2), .val (.int rA), .val (.int rC), .val (.int o0), .unset, .unset, .unset] [])) (fun t_ k_ => XS.istore X17.here hx rfl (hb hby at_292) rfl (l' := #[.val (.int p1), .val (.int p2), .val (.int p3), .val (.int va), .val (.int vb), .val (.int vc), .val (.int vd), .val (.int f1), .val (.int f2), .val (.int f3), .val (.int g1), .val (.int g2), .val (.int g3), .val (.int vx), .val (.int vy), .val (.int vz), .val (.ref uf), .val (.int r1), .val (.int r2), .val (.int rA), .val (.int rC), .val (.int o0), .unset, .unset, .unset]) rfl k_) ?_
                      refine Go.st (T' := T17) (g' := (mkF m 296 #[.val (.int p1), .val (.int p2), .val (.int p3), .val (.int va), .val (.int vb), .val (.int vc), .val (.int vd), .val (.int f1), .val (.int f2), .val (.int f3), .val (.int g1), .val (.int g2), .val (.int g3), .val (.int vx), .val (.int vy), .val (.int vz), .val (.ref uf), .val (.int r1), .val (.int r2), .val (.int rA), .val (.int rC), .val (.int o0), .unset, .unset, .unset] [(.ref uf)])) (fun t_ k_ => XS.aload X17.here hx rfl (hb hby at_294) rfl rfl k_) ?_
                      refine Go.st (T' := T17) (g' := (mkF m 298 #[.val (.int p1), .val (.int p2), .val (.int p3), .val (.int va), .val (.int vb), .val (.int vc), .val (.int vd), .val (.int f1), .val (.int f2), .val (.int f3), .val (.int g1), .val (.int g2), .val (.int g3), .val (.int vx), .val (.int vy), .val (.int vz), .val (.ref uf), .val (.int r1), .val (.int r2), .val (.int rA), .val (.int rC), .val (.int o0), .unset, .unset, .unset] [(.int vy), (.ref uf)])) (fun t_ k_ => XS.iload X17.here hx rfl (hb hby at_296) rfl k_) ?_
                      refine goVirtS X17 hx hZ (y := (⟨"com/example/cellsight/cellsight/analysis/UnionFind", "find", "(I)I"⟩ : MethodName)) hown (hw _ (List.mem_of_getElem? (i := 15) rfl)) (hw _ (List.mem_of_getElem? (i := 16) rfl)) (hw _ (List.mem_of_getElem? (i := 18) rfl)) (hw _ (List.mem_of_getElem? (i := 17) rfl)) (hw _ (List.mem_of_getElem? (i := 3) rfl)) (hw _ (List.mem_of_getElem? (i := 19) rfl)) (by decide) f17_4 (rm3 l Z a0 hw [] n0 h17 uf vy pA n (fun i => (par'_17 i)) (own_R va vb vc vd f1 f2 rA rC) sz17 f17_4 f17_5 f17_7 p17_0 g8_J285 (hT0) (hn3) (hvy)) 0 (by decide) (by decide) (by rw [hml]; rfl) [(.int vy)] [] (lenOf pd_70cf885d rfl) rfl rfl rfl (hb hby at_298) (by decide) (by decide) fun v18 T18 h18 X18 hq18 => ?_
                      obtain ⟨o1, par'_18, rfl, K18c, p18_0, hT1, t1⟩ := hq18
                      have f18_4 : Exa Z h18 uf "com/example/cellsight/cellsight/analysis/UnionFind" := f17_4.keep K18c
                      have f18_5 : Fld Z h18 uf "com/example/cellsight/cellsight/analysis/UnionFind" "parent" "[I" (.ref pA) := f17_5.keep K18c (ninS (ne_exa f17_4 f17_7 (by decide)) nin0)
                      have f18_6 : Fld Z h18 uf "com/example/cellsight/cellsight/analysis/UnionFind" "rank" "[I" (.ref kA) := f17_6.keep K18c (ninS (ne_exa f17_4 f17_7 (by decide)) nin0)
                      have f18_7 : Exa Z h18 pA "[I" := f17_7.keep K18c
                      have f18_8 : Exa Z h18 kA "[I" := f17_8.keep K18c
                      have f18_9 : Ary Z h18 kA .int n (fun i => .int (rk i)) := f17_9.keep K18c (ninS g10_J285.symm nin0)
                      have sz18 : n0 ≤ h18.size := Nat.le_trans sz17 K18c.1
                      show Go p e below _ T18 (mkF m 301 #[.val (.int p1), .val (.int p2), .val (.int p3), .val (.int va), .val (.int vb), .val (.int vc), .val (.int vd), .val (.int f1), .val (.int f2), .val (.int f3), .val (.int g1), .val (.int g2), .val (.int g3), .val (.int vx), .val (.int vy), .val (.int vz), .val (.ref uf), .val (.int r1), .val (.int r2), .val (.int rA), .val (.int rC), .val (.int o0), .unset, .unset, .unset] [(.int o1)])
                      refine Go.st (T' := T18) (g' := (mkF m 303 #[.val (.int p1), .val (.int p2), .val (.int p3), .val (.int va), .val (.int vb), .val (.int vc), .val (.int vd), .val (.int f1), .val (.int f2), .val (.int f3), .val (.int g1), .val (.int g2), .val (.int g3), .val (.int vx), .val (.int vy), .val (.int vz), .val (.ref uf), .val (.int r1), .val (.int r2), .val (.int rA), .val (.int rC), .val (.int o0), .val (.int o1), .unset, .unset] [])) (fun t_ k_ => XS.istore X18.here hx rfl (hb hby at_301) rfl (l' := #[.val (.int p1), .val (.int p2), .val (.int p3), .val (.int va), .val (.int vb), .val (.int vc), .val (.int vd), .val (.int f1), .val (.int f2), .val (.int f3), .val (.int g1), .val (.int g2), .val (.int g3), .val (.int vx), .val (.int vy), .val (.int vz), .val (.ref uf), .val (.int r1), .val (.int r2), .val (.int rA), .val (.int rC), .val (.int o0), .val (.int o1), .unset, .unset]) rfl k_) ?_
                      refine Go.st (T' := T18) (g' := (mkF m 305 #[.val (.int p1), .val (.int p2), .val (.int p3), .val (.int va), .val (.int vb), .val (.int vc), .val (.int vd), .val (.int f1), .val (.int f2), .val (.int f3), .val (.int g1), .val (.int g2), .val (.int g3), .val (.int vx), .val (.int vy), .val (.int vz), .val (.ref uf), .val (.int r1), .val (.int r2), .val (.int rA), .val (.int rC), .val (.int o0), .val (.int o1), .unset, .unset] [(.ref uf)])) (fun t_ k_ => XS.aload X18.here hx rfl (hb hby at_303) rfl rfl k_) ?_
                      refine Go.st (T' := T18) (g' := (mkF m 307 #[.val (.int p1), .val (.int p2), .val (.int p3), .val (.int va), .val (.int vb), .val (.int vc), .val (.int vd), .val (.int f1), .val (.int f2), .val (.int f3), .val (.int g1), .val (.int g2), .val (.int g3), .val (.int vx), .val (.int vy), .val (.int vz), .val (.ref uf), .val (.int r1), .val (.int r2), .val (.int rA), .val (.int rC), .val (.int o0), .val (.int o1), .unset, .unset] [(.int vz), (.ref uf)])) (fun t_ k_ => XS.iload X18.here hx rfl (hb hby at_305) rfl k_) ?_
                      refine goVirtS X18 hx hZ (y := (⟨"com/example/cellsight/cellsight/analysis/UnionFind", "find", "(I)I"⟩ : MethodName)) hown (hw _ (List.mem_of_getElem? (i := 15) rfl)) (hw _ (List.mem_of_getElem? (i := 16) rfl)) (hw _ (List.mem_of_getElem? (i := 18) rfl)) (hw _ (List.mem_of_getElem? (i := 17) rfl)) (hw _ (List.mem_of_getElem? (i := 3) rfl)) (hw _ (List.mem_of_getElem? (i := 19) rfl)) (by decide) f18_4 (rm3 l Z a0 hw [] n0 h18 uf vz pA n (fun i => (par'_18 i)) (own_R va vb vc vd f1 f2 rA rC) sz18 f18_4 f18_5 f18_7 p18_0 g8_J285 (hT1) (hn3) (hvz)) 0 (by decide) (by decide) (by rw [hml]; rfl) [(.int vz)] [] (lenOf pd_70cf885d rfl) rfl rfl rfl (hb hby at_307) (by decide) (by decide) fun v19 T19 h19 X19 hq19 => ?_
                      obtain ⟨o2, par'_19, rfl, K19c, p19_0, hT2, t2⟩ := hq19
                      have f19_4 : Exa Z h19 uf "com/example/cellsight/cellsight/analysis/UnionFind" := f18_4.keep K19c
                      have f19_5 : Fld Z h19 uf "com/example/cellsight/cellsight/analysis/UnionFind" "parent" "[I" (.ref pA) := f18_5.keep K19c (ninS (ne_exa f18_4 f18_7 (by decide)) nin0)
                      have f19_6 : Fld Z h19 uf "com/example/cellsight/cellsight/analysis/UnionFind" "rank" "[I" (.ref kA) := f18_6.keep K19c (ninS (ne_exa f18_4 f18_7 (by decide)) nin0)
                      have f19_7 : Exa Z h19 pA "[I" := f18_7.keep K19c
                      have f19_8 : Exa Z h19 kA "[I" := f18_8.keep K19c
                      have f19_9 : Ary Z h19 kA .int n (fun i => .int (rk i)) := f18_9.keep K19c (ninS g10_J285.symm nin0)
                      have sz19 : n0 ≤ h19.size := Nat.le_trans sz18 K19c.1
                      show Go p e below _ T19 (mkF m 310 #[.val (.int p1), .val (.int p2), .val (.int p3), .val (.int va), .val (.int vb), .val (.int vc), .val (.int vd), .val (.int f1), .val (.int f2), .val (.int f3), .val (.int g1), .val (.int g2), .val (.int g3), .val (.int vx), .val (.int vy), .val (.int vz), .val (.ref uf), .val (.int r1), .val (.int r2), .val (.int rA), .val (.int rC), .val (.int o0), .val (.int o1), .unset, .unset] [(.int o2)])
                      refine Go.st (T' := T19) (g' := (mkF m 312 #[.val (.int p1), .val (.int p2), .val (.int p3), .val (.int va), .val (.int vb), .val (.int vc), .val (.int vd), .val (.int f1), .val (.int f2), .val (.int f3), .val (.int g1), .val (.int g2), .val (.int g3), .val (.int vx), .val (.int vy), .val (.int vz), .val (.ref uf), .val (.int r1), .val (.int r2), .val (.int rA), .val (.int rC), .val (.int o0), .val (.int o1), .val (.int o2), .unset] [])) (fun t_ k_ => XS.istore X19.here hx rfl (hb hby at_310) rfl (l' := #[.val (.int p1), .val (.int p2), .val (.int p3), .val (.int va), .val (.int vb), .val (.int vc), .val (.int vd), .val (.int f1), .val (.int f2), .val (.int f3), .val (.int g1), .val (.int g2), .val (.int g3), .val (.int vx), .val (.int vy), .val (.int vz), .val (.ref uf), .val (.int r1), .val (.int r2), .val (.int rA), .val (.int rC), .val (.int o0), .val (.int o1), .val (.int o2), .unset]) rfl k_) ?_
                      refine Go.st (T' := T19) (g' := (mkF m 314 #[.val (.int p1), .val (.int p2), .val (.int p3), .val (.int va), .val (.int vb), .val (.int vc), .val (.int vd), .val (.int f1), .val (.int f2), .val (.int f3), .val (.int g1), .val (.int g2), .val (.int g3), .val (.int vx), .val (.int vy), .val (.int vz), .val (.ref uf), .val (.int r1), .val (.int r2), .val (.int rA), .val (.int rC), .val (.int o0), .val (.int o1), .val (.int o2), .unset] [(.ref uf)])) (fun t_ k_ => XS.aload X19.here hx rfl (hb hby at_312) rfl rfl k_) ?_
                      refine Go.st (T' := T19) (g' := (mkF m 316 #[.val (.int p1), .val (.int p2), .val (.int p3), .val (.int va), .val (.int vb), .val (.int vc), .val (.int vd), .val (.int f1), .val (.int f2), .val (.int f3), .val (.int g1), .val (.int g2), .val (.int g3), .val (.int vx), .val (.int vy), .val (.int vz), .val (.ref uf), .val (.int r1), .val (.int r2), .val (.int rA), .val (.int rC), .val (.int o0), .val (.int o1), .val (.int o2), .unset] [(.int vx), (.ref uf)])) (fun t_ k_ => XS.iload X19.here hx rfl (hb hby at_314) rfl k_) ?_
                      refine goVirtS X19 hx hZ (y := (⟨"com/example/cellsight/cellsight/analysis/UnionFind", "find", "(I)I"⟩ : MethodName)) hown (hw _ (List.mem_of_getElem? (i := 15) rfl)) (hw _ (List.mem_of_getElem? (i := 16) rfl)) (hw _ (List.mem_of_getElem? (i := 18) rfl)) (hw _ (List.mem_of_getElem? (i := 17) rfl)) (hw _ (List.mem_of_getElem? (i := 3) rfl)) (hw _ (List.mem_of_getElem? (i := 19) rfl)) (by decide) f19_4 (rm3 l Z a0 hw [] n0 h19 uf vx pA n (fun i => (par'_19 i)) (own_R va vb vc vd f1 f2 rA rC) sz19 f19_4 f19_5 f19_7 p19_0 g8_J285 (hT2) (hn3) (hvx)) 0 (by decide) (by decide) (by rw [hml]; rfl) [(.int vx)] [] (lenOf pd_70cf885d rfl) rfl rfl rfl (hb hby at_316) (by decide) (by decide) fun v20 T20 h20 X20 hq20 => ?_
                      obtain ⟨o3, par'_20, rfl, K20c, p20_0, hT3, t3⟩ := hq20
                      have f20_4 : Exa Z h20 uf "com/example/cellsight/cellsight/analysis/UnionFind" := f19_4.keep K20c
                      have f20_5 : Fld Z h20 uf "com/example/cellsight/cellsight/analysis/UnionFind" "parent" "[I" (.ref pA) := f19_5.keep K20c (ninS (ne_exa f19_4 f19_7 (by decide)) nin0)
                      have f20_6 : Fld Z h20 uf "com/example/cellsight/cellsight/analysis/UnionFind" "rank" "[I" (.ref kA) := f19_6.keep K20c (ninS (ne_exa f19_4 f19_7 (by decide)) nin0)
                      have f20_7 : Exa Z h20 pA "[I" := f19_7.keep K20c
                      have f20_8 : Exa Z h20 kA "[I" := f19_8.keep K20c
                      have f20_9 : Ary Z h20 kA .int n (fun i => .int (rk i)) := f19_9.keep K20c (ninS g10_J285.symm nin0)
                      have sz20 : n0 ≤ h20.size := Nat.le_trans sz19 K20c.1
                      show Go p e below _ T20 (mkF m 319 #[.val (.int p1), .val (.int p2), .val (.int p3), .val (.int va), .val (.int vb), .val (.int vc), .val (.int vd), .val (.int f1), .val (.int f2), .val (.int f3), .val (.int g1), .val (.int g2), .val (.int g3), .val (.int vx), .val (.int vy), .val (.int vz), .val (.ref uf), .val (.int r1), .val (.int r2), .val (.int rA), .val (.int rC), .val (.int o0), .val (.int o1), .val (.int o2), .unset] [(.int o3)])
                      refine Go.st (T' := T20) (g' := (mkF m 321 #[.val (.int p1), .val (.int p2), .val (.int p3), .val (.int va), .val (.int vb), .val (.int vc), .val (.int vd), .val (.int f1), .val (.int f2), .val (.int f3), .val (.int g1), .val (.int g2), .val (.int g3), .val (.int vx), .val (.int vy), .val (.int vz), .val (.ref uf), .val (.int r1), .val (.int r2), .val (.int rA), .val (.int rC), .val (.int o0), .val (.int o1), .val (.int o2), .val (.int o3)] [])) (fun t_ k_ => XS.istore X20.here hx rfl (hb hby at_319) rfl (l' := #[.val (.int p1), .val (.int p2), .val (.int p3), .val (.int va), .val (.int vb), .val (.int vc), .val (.int vd), .val (.int f1), .val (.int f2), .val (.int f3), .val (.int g1), .val (.int g2), .val (.int g3), .val (.int vx), .val (.int vy), .val (.int vz), .val (.ref uf), .val (.int r1), .val (.int r2), .val (.int rA), .val (.int rC), .val (.int o0), .val (.int o1), .val (.int o2), .val (.int o3)]) rfl k_) ?_
                      refine Go.st (T' := T20) (g' := (mkF m 323 #[.val (.int p1), .val (.int p2), .val (.int p3), .val (.int va), .val (.int vb), .val (.int vc), .val (.int vd), .val (.int f1), .val (.int f2), .val (.int f3), .val (.int g1), .val (.int g2), .val (.int g3), .val (.int vx), .val (.int vy), .val (.int vz), .val (.ref uf), .val (.int r1), .val (.int r2), .val (.int rA), .val (.int rC), .val (.int o0), .val (.int o1), .val (.int o2), .val (.int o3)] [(.int o0)])) (fun t_ k_ => XS.iload X20.here hx rfl (hb hby at_321) rfl k_) ?_
                      refine Go.st (T' := T20) (g' := (mkF m 325 #[.val (.int p1), .val (.int p2), .val (.int p3), .val (.int va), .val (.int vb), .val (.int vc), .val (.int vd), .val (.int f1), .val (.int f2), .val (.int f3), .val (.int g1), .val (.int g2), .val (.int g3), .val (.int vx), .val (.int vy), .val (.int vz), .val (.ref uf), .val (.int r1), .val (.int r2), .val (.int rA), .val (.int rC), .val (.int o0), .val (.int o1), .val (.int o2), .val (.int o3)] [(.int vx), (.int o0)])) (fun t_ k_ => XS.iload X20.here hx rfl (hb hby at_323) rfl k_) ?_
                      refine Go.st (T' := T20) (g' := (mkF m 326 #[.val (.int p1), .val (.int p2), .val (.int p3), .val (.int va), .val (.int vb), .val (.int vc), .val (.int vd), .val (.int f1), .val (.int f2), .val (.int f3), .val (.int g1), .val (.int g2), .val (.int g3), .val (.int vx), .val (.int vy), .val (.int vz), .val (.ref uf), .val (.int r1), .val (.int r2), .val (.int rA), .val (.int rC), .val (.int o0), .val (.int o1), .val (.int o2), .val (.int o3)] [(.int va), (.int vx), (.int o0)])) (fun t_ k_ => XS.iloadN X20.here hx rfl (hb hby at_325) rfl k_) ?_
                      refine Go.st (T' := T20) (g' := (mkF m 328 #[.val (.int p1), .val (.int p2), .val (.int p3), .val (.int va), .val (.int vb), .val (.int vc), .val (.int vd), .val (.int f1), .val (.int f2), .val (.int f3), .val (.int g1), .val (.int g2), .val (.int g3), .val (.int vx), .val (.int vy), .val (.int vz), .val (.ref uf), .val (.int r1), .val (.int r2), .val (.int rA), .val (.int rC), .val (.int o0), .val (.int o1), .val (.int o2), .val (.int o3)] [(.int vb), (.int va), (.int vx), (.int o0)])) (fun t_ k_ => XS.iload X20.here hx rfl (hb hby at_326) rfl k_) ?_
                      refine Go.st (T' := T20) (g' := (mkF m 330 #[.val (.int p1), .val (.int p2), .val (.int p3), .val (.int va), .val (.int vb), .val (.int vc), .val (.int vd), .val (.int f1), .val (.int f2), .val (.int f3), .val (.int g1), .val (.int g2), .val (.int g3), .val (.int vx), .val (.int vy), .val (.int vz), .val (.ref uf), .val (.int r1), .val (.int r2), .val (.int rA), .val (.int rC), .val (.int o0), .val (.int o1), .val (.int o2), .val (.int o3)] [(.int vc), (.int vb), (.int va), (.int vx), (.int o0)])) (fun t_ k_ => XS.iload X20.here hx rfl (hb hby at_328) rfl k_) ?_
                      refine Go.st (T' := T20) (g' := (mkF m 332 #[.val (.int p1), .val (.int p2), .val (.int p3), .val (.int va), .val (.int vb), .val (.int vc), .val (.int vd), .val (.int f1), .val (.int f2), .val (.int f3), .val (.int g1), .val (.int g2), .val (.int g3), .val (.int vx), .val (.int vy), .val (.int vz), .val (.ref uf), .val (.int r1), .val (.int r2), .val (.int rA), .val (.int rC), .val (.int o0), .val (.int o1), .val (.int o2), .val (.int o3)] [(.int vd), (.int vc), (.int vb), (.int va), (.int vx), (.int o0)])) (fun t_ k_ => XS.iload X20.here hx rfl (hb hby at_330) rfl k_) ?_
                      refine Go.st (T' := T20) (g' := (mkF m 334 #[.val (.int p1), .val (.int p2), .val (.int p3), .val (.int va), .val (.int vb), .val (.int vc), .val (.int vd), .val (.int f1), .val (.int f2), .val (.int f3), .val (.int g1), .val (.int g2), .val (.int g3), .val (.int vx), .val (.int vy), .val (.int vz), .val (.ref uf), .val (.int r1), .val (.int r2), .val (.int rA), .val (.int rC), .val (.int o0), .val (.int o1), .val (.int o2), .val (.int o3)] [(.int f1), (.int vd), (.int vc), (.int vb), (.int va), (.int vx), (.int o0)])) (fun t_ k_ => XS.iload X20.here hx rfl (hb hby at_332) rfl k_) ?_
                      refine Go.st (T' := T20) (g' := (mkF m 336 #[.val (.int p1), .val (.int p2), .val (.int p3), .val (.int va), .val (.int vb), .val (.int vc), .val (.int vd), .val (.int f1), .val (.int f2), .val (.int f3), .val (.int g1), .val (.int g2), .val (.int g3), .val (.int vx), .val (.int vy), .val (.int vz), .val (.ref uf), .val (.int r1), .val (.int r2), .val (.int rA), .val (.int rC), .val (.int o0), .val (.int o1), .val (.int o2), .val (.int o3)] [(.int f2), (.int f1), (.int vd), (.int vc), (.int vb), (.int va), (.int vx), (.int o0)])) (fun t_ k_ => XS.iload X20.here hx rfl (hb hby at_334) rfl k_) ?_
                      refine Go.st (T' := T20) (g' := (mkF m 338 #[.val (.int p1), .val (.int p2), .val (.int p3), .val (.int va), .val (.int vb), .val (.int vc), .val (.int vd), .val (.int f1), .val (.int f2), .val (.int f3), .val (.int g1), .val (.int g2), .val (.int g3), .val (.int vx), .val (.int vy), .val (.int vz), .val (.ref uf), .val (.int r1), .val (.int r2), .val (.int rA), .val (.int rC), .val (.int o0), .val (.int o1), .val (.int o2), .val (.int o3)] [(.int rA), (.int f2), (.int f1), (.int vd), (.int vc), (.int vb), (.int va), (.int vx), (.int o0)])) (fun t_ k_ => XS.iload X20.here hx rfl (hb hby at_336) rfl k_) ?_
                      refine Go.st (T' := T20) (g' := (mkF m 340 #[.val (.int p1), .val (.int p2), .val (.int p3), .val (.int va), .val (.int vb), .val (.int vc), .val (.int vd), .val (.int f1), .val (.int f2), .val (.int f3), .val (.int g1), .val (.int g2), .val (.int g3), .val (.int vx), .val (.int vy), .val (.int vz), .val (.ref uf), .val (.int r1), .val (.int r2), .val (.int rA), .val (.int rC), .val (.int o0), .val (.int o1), .val (.int o2), .val (.int o3)] [(.int rC), (.int rA), (.int f2), (.int f1), (.int vd), (.int vc), (.int vb), (.int va), (.int vx), (.int o0)])) (fun t_ k_ => XS.iload X20.here hx rfl (hb hby at_338) rfl k_) ?_
                      refine goStatic X20 hx hZ (y := (⟨"com/example/cellsight/cellsight/analysis/UnionFindFindPinLaw", "expected", "(IIIIIZZII)I"⟩ : MethodName)) hown (hw _ (List.mem_of_getElem? (i := 20) rfl)) (hw _ (List.mem_of_getElem? (i := 21) rfl)) (hw _ (List.mem_of_getElem? (i := 22) rfl)) (hw _ (List.mem_of_getElem? (i := 23) rfl)) (by decide) (rm4 l Z a0 hw [] n0 h20 vx va vb vc vd f1 f2 rA rC sz20) 1 (by decide) (by decide) (by rw [hml]; rfl) [(.int vx), (.int va), (.int vb), (.int vc), (.int vd), (.int f1), (.int f2), (.int rA), (.int rC)] [(.int o0)] (lenOf pd_32950785 rfl) rfl rfl rfl (hb hby at_340) (by decide) (by decide) fun v21 T21 h21 X21 hq21 => ?_
                      obtain ⟨x0, rfl, eh21, u0⟩ := hq21
                      rw [eh21] at X21
                      show Go p e below _ T21 (mkF m 343 #[.val (.int p1), .val (.int p2), .val (.int p3), .val (.int va), .val (.int vb), .val (.int vc), .val (.int vd), .val (.int f1), .val (.int f2), .val (.int f3), .val (.int g1), .val (.int g2), .val (.int g3), .val (.int vx), .val (.int vy), .val (.int vz), .val (.ref uf), .val (.int r1), .val (.int r2), .val (.int rA), .val (.int rC), .val (.int o0), .val (.int o1), .val (.int o2), .val (.int o3)] [(.int x0), (.int o0)])
                      have hc343 : o0 = x0 := by rw [u0]; exact own_fin t0 hvx h4.1.1 h4.2.1.1 h4.2.2.1.1 h4.2.2.2.1 hA hC
                      refine Go.st (T' := T21) (g' := (mkF m 346 #[.val (.int p1), .val (.int p2), .val (.int p3), .val (.int va), .val (.int vb), .val (.int vc), .val (.int vd), .val (.int f1), .val (.int f2), .val (.int f3), .val (.int g1), .val (.int g2), .val (.int g3), .val (.int vx), .val (.int vy), .val (.int vz), .val (.ref uf), .val (.int r1), .val (.int r2), .val (.int rA), .val (.int rC), .val (.int o0), .val (.int o1), .val (.int o2), .val (.int o3)] [])) (fun t_ k_ => XS.icmpNo X21.here hx rfl (hb hby at_343) rfl (teq hc343).2 k_) ?_
                      refine Go.st (T' := T21) (g' := (mkF m 348 #[.val (.int p1), .val (.int p2), .val (.int p3), .val (.int va), .val (.int vb), .val (.int vc), .val (.int vd), .val (.int f1), .val (.int f2), .val (.int f3), .val (.int g1), .val (.int g2), .val (.int g3), .val (.int vx), .val (.int vy), .val (.int vz), .val (.ref uf), .val (.int r1), .val (.int r2), .val (.int rA), .val (.int rC), .val (.int o0), .val (.int o1), .val (.int o2), .val (.int o3)] [(.int o1)])) (fun t_ k_ => XS.iload X21.here hx rfl (hb hby at_346) rfl k_) ?_
                      refine Go.st (T' := T21) (g' := (mkF m 350 #[.val (.int p1), .val (.int p2), .val (.int p3), .val (.int va), .val (.int vb), .val (.int vc), .val (.int vd), .val (.int f1), .val (.int f2), .val (.int f3), .val (.int g1), .val (.int g2), .val (.int g3), .val (.int vx), .val (.int vy), .val (.int vz), .val (.ref uf), .val (.int r1), .val (.int r2), .val (.int rA), .val (.int rC), .val (.int o0), .val (.int o1), .val (.int o2), .val (.int o3)] [(.int vy), (.int o1)])) (fun t_ k_ => XS.iload X21.here hx rfl (hb hby at_348) rfl k_) ?_
                      refine Go.st (T' := T21) (g' := (mkF m 351 #[.val (.int p1), .val (.int p2), .val (.int p3), .val (.int va), .val (.int vb), .val (.int vc), .val (.int vd), .val (.int f1), .val (.int f2), .val (.int f3), .val (.int g1), .val (.int g2), .val (.int g3), .val (.int vx), .val (.int vy), .val (.int vz), .val (.ref uf), .val (.int r1), .val (.int r2), .val (.int rA), .val (.int rC), .val (.int o0), .val (.int o1), .val (.int o2), .val (.int o3)] [(.int va), (.int vy), (.int o1)])) (fun t_ k_ => XS.iloadN X21.here hx rfl (hb hby at_350) rfl k_) ?_
                      refine Go.st (T' := T21) (g' := (mkF m 353 #[.val (.int p1), .val (.int p2), .val (.int p3), .val (.int va), .val (.int vb), .val (.int vc), .val (.int vd), .val (.int f1), .val (.int f2), .val (.int f3), .val (.int g1), .val (.int g2), .val (.int g3), .val (.int vx), .val (.int vy), .val (.int vz), .val (.ref uf), .val (.int r1), .val (.int r2), .val (.int rA), .val (.int rC), .val (.int o0), .val (.int o1), .val (.int o2), .val (.int o3)] [(.int vb), (.int va), (.int vy), (.int o1)])) (fun t_ k_ => XS.iload X21.here hx rfl (hb hby at_351) rfl k_) ?_
                      refine Go.st (T' := T21) (g' := (mkF m 355 #[.val (.int p1), .val (.int p2), .val (.int p3), .val (.int va), .val (.int vb), .val (.int vc), .val (.int vd), .val (.int f1), .val (.int f2), .val (.int f3), .val (.int g1), .val (.int g2), .val (.int g3), .val (.int vx), .val (.int vy), .val (.int vz), .val (.ref uf), .val (.int r1), .val (.int r2), .val (.int rA), .val (.int rC), .val (.int o0), .val (.int o1), .val (.int o2), .val (.int o3)] [(.int vc), (.int vb), (.int va), (.int vy), (.int o1)])) (fun t_ k_ => XS.iload X21.here hx rfl (hb hby at_353) rfl k_) ?_
                      refine Go.st (T' := T21) (g' := (mkF m 357 #[.val (.int p1), .val (.int p2), .val (.int p3), .val (.int va), .val (.int vb), .val (.int vc), .val (.int vd), .val (.int f1), .val (.int f2), .val (.int f3), .val (.int g1), .val (.int g2), .val (.int g3), .val (.int vx), .val (.int vy), .val (.int vz), .val (.ref uf), .val (.int r1), .val (.int r2), .val (.int rA), .val (.int rC), .val (.int o0), .val (.int o1), .val (.int o2), .val (.int o3)] [(.int vd), (.int vc), (.int vb), (.int va), (.int vy), (.int o1)])) (fun t_ k_ => XS.iload X21.here hx rfl (hb hby at_355) rfl k_) ?_
                      refine Go.st (T' := T21) (g' := (mkF m 359 #[.val (.int p1), .val (.int p2), .val (.int p3), .val (.int va), .val (.int vb), .val (.int vc), .val (.int vd), .val (.int f1), .val (.int f2), .val (.int f3), .val (.int g1), .val (.int g2), .val (.int g3), .val (.int vx), .val (.int vy), .val (.int vz), .val (.ref uf), .val (.int r1), .val (.int r2), .val (.int rA), .val (.int rC), .val (.int o0), .val (.int o1), .val (.int o2), .val (.int o3)] [(.int f1), (.int vd), (.int vc), (.int vb), (.int va), (.int vy), (.int o1)])) (fun t_ k_ => XS.iload X21.here hx rfl (hb hby at_357) rfl k_) ?_
                      refine Go.st (T' := T21) (g' := (mkF m 361 #[.val (.int p1), .val (.int p2), .val (.int p3), .val (.int va), .val (.int vb), .val (.int vc), .val (.int vd), .val (.int f1), .val (.int f2), .val (.int f3), .val (.int g1), .val (.int g2), .val (.int g3), .val (.int vx), .val (.int vy), .val (.int vz), .val (.ref uf), .val (.int r1), .val (.int r2), .val (.int rA), .val (.int rC), .val (.int o0), .val (.int o1), .val (.int o2), .val (.int o3)] [(.int f2), (.int f1), (.int vd), (.int vc), (.int vb), (.int va), (.int vy), (.int o1)])) (fun t_ k_ => XS.iload X21.here hx rfl (hb hby at_359) rfl k_) ?_
                      refine Go.st (T' := T21) (g' := (mkF m 363 #[.val (.int p1), .val (.int p2), .val (.int p3), .val (.int va), .val (.int vb), .val (.int vc), .val (.int vd), .val (.int f1), .val (.int f2), .val (.int f3), .val (.int g1), .val (.int g2), .val (.int g3), .val (.int vx), .val (.int vy), .val (.int vz), .val (.ref uf), .val (.int r1), .val (.int r2), .val (.int rA), .val (.int rC), .val (.int o0), .val (.int o1), .val (.int o2), .val (.int o3)] [(.int rA), (.int f2), (.int f1), (.int vd), (.int vc), (.int vb), (.int va), (.int vy), (.int o1)])) (fun t_ k_ => XS.iload X21.here hx rfl (hb hby at_361) rfl k_) ?_
                      refine Go.st (T' := T21) (g' := (mkF m 365 #[.val (.int p1), .val (.int p2), .val (.int p3), .val (.int va), .val (.int vb), .val (.int vc), .val (.int vd), .val (.int f1), .val (.int f2), .val (.int f3), .val (.int g1), .val (.int g2), .val (.int g3), .val (.int vx), .val (.int vy), .val (.int vz), .val (.ref uf), .val (.int r1), .val (.int r2), .val (.int rA), .val (.int rC), .val (.int o0), .val (.int o1), .val (.int o2), .val (.int o3)] [(.int rC), (.int rA), (.int f2), (.int f1), (.int vd), (.int vc), (.int vb), (.int va), (.int vy), (.int o1)])) (fun t_ k_ => XS.iload X21.here hx rfl (hb hby at_363) rfl k_) ?_
                      refine goStatic X21 hx hZ (y := (⟨"com/example/cellsight/cellsight/analysis/UnionFindFindPinLaw", "expected", "(IIIIIZZII)I"⟩ : MethodName)) hown (hw _ (List.mem_of_getElem? (i := 20) rfl)) (hw _ (List.mem_of_getElem? (i := 21) rfl)) (hw _ (List.mem_of_getElem? (i := 22) rfl)) (hw _ (List.mem_of_getElem? (i := 23) rfl)) (by decide) (rm4 l Z a0 hw [] n0 h20 vy va vb vc vd f1 f2 rA rC sz20) 1 (by decide) (by decide) (by rw [hml]; rfl) [(.int vy), (.int va), (.int vb), (.int vc), (.int vd), (.int f1), (.int f2), (.int rA), (.int rC)] [(.int o1)] (lenOf pd_32950785 rfl) rfl rfl rfl (hb hby at_365) (by decide) (by decide) fun v22 T22 h22 X22 hq22 => ?_
                      obtain ⟨x1, rfl, eh22, u1⟩ := hq22
                      rw [eh22] at X22
                      show Go p e below _ T22 (mkF m 368 #[.val (.int p1), .val (.int p2), .val (.int p3), .val (.int va), .val (.int vb), .val (.int vc), .val (.int vd), .val (.int f1), .val (.int f2), .val (.int f3), .val (.int g1), .val (.int g2), .val (.int g3), .val (.int vx), .val (.int vy), .val (.int vz), .val (.ref uf), .val (.int r1), .val (.int r2), .val (.int rA), .val (.int rC), .val (.int o0), .val (.int o1), .val (.int o2), .val (.int o3)] [(.int x1), (.int o1)])
                      have hc368 : o1 = x1 := by rw [u1]; exact own_fin t1 hvy h4.1.1 h4.2.1.1 h4.2.2.1.1 h4.2.2.2.1 hA hC
                      refine Go.st (T' := T22) (g' := (mkF m 371 #[.val (.int p1), .val (.int p2), .val (.int p3), .val (.int va), .val (.int vb), .val (.int vc), .val (.int vd), .val (.int f1), .val (.int f2), .val (.int f3), .val (.int g1), .val (.int g2), .val (.int g3), .val (.int vx), .val (.int vy), .val (.int vz), .val (.ref uf), .val (.int r1), .val (.int r2), .val (.int rA), .val (.int rC), .val (.int o0), .val (.int o1), .val (.int o2), .val (.int o3)] [])) (fun t_ k_ => XS.icmpNo X22.here hx rfl (hb hby at_368) rfl (teq hc368).2 k_) ?_
                      refine Go.st (T' := T22) (g' := (mkF m 373 #[.val (.int p1), .val (.int p2), .val (.int p3), .val (.int va), .val (.int vb), .val (.int vc), .val (.int vd), .val (.int f1), .val (.int f2), .val (.int f3), .val (.int g1), .val (.int g2), .val (.int g3), .val (.int vx), .val (.int vy), .val (.int vz), .val (.ref uf), .val (.int r1), .val (.int r2), .val (.int rA), .val (.int rC), .val (.int o0), .val (.int o1), .val (.int o2), .val (.int o3)] [(.int o2)])) (fun t_ k_ => XS.iload X22.here hx rfl (hb hby at_371) rfl k_) ?_
                      refine Go.st (T' := T22) (g' := (mkF m 375 #[.val (.int p1), .val (.int p2), .val (.int p3), .val (.int va), .val (.int vb), .val (.int vc), .val (.int vd), .val (.int f1), .val (.int f2), .val (.int f3), .val (.int g1), .val (.int g2), .val (.int g3), .val (.int vx), .val (.int vy), .val (.int vz), .val (.ref uf), .val (.int r1), .val (.int r2), .val (.int rA), .val (.int rC), .val (.int o0), .val (.int o1), .val (.int o2), .val (.int o3)] [(.int vz), (.int o2)])) (fun t_ k_ => XS.iload X22.here hx rfl (hb hby at_373) rfl k_) ?_
                      refine Go.st (T' := T22) (g' := (mkF m 376 #[.val (.int p1), .val (.int p2), .val (.int p3), .val (.int va), .val (.int vb), .val (.int vc), .val (.int vd), .val (.int f1), .val (.int f2), .val (.int f3), .val (.int g1), .val (.int g2), .val (.int g3), .val (.int vx), .val (.int vy), .val (.int vz), .val (.ref uf), .val (.int r1), .val (.int r2), .val (.int rA), .val (.int rC), .val (.int o0), .val (.int o1), .val (.int o2), .val (.int o3)] [(.int va), (.int vz), (.int o2)])) (fun t_ k_ => XS.iloadN X22.here hx rfl (hb hby at_375) rfl k_) ?_
                      refine Go.st (T' := T22) (g' := (mkF m 378 #[.val (.int p1), .val (.int p2), .val (.int p3), .val (.int va), .val (.int vb), .val (.int vc), .val (.int vd), .val (.int f1), .val (.int f2), .val (.int f3), .val (.int g1), .val (.int g2), .val (.int g3), .val (.int vx), .val (.int vy), .val (.int vz), .val (.ref uf), .val (.int r1), .val (.int r2), .val (.int rA), .val (.int rC), .val (.int o0), .val (.int o1), .val (.int o2), .val (.int o3)] [(.int vb), (.int va), (.int vz), (.int o2)])) (fun t_ k_ => XS.iload X22.here hx rfl (hb hby at_376) rfl k_) ?_
                      refine Go.st (T' := T22) (g' := (mkF m 380 #[.val (.int p1), .val (.int p2), .val (.int p3), .val (.int va), .val (.int vb), .val (.int vc), .val (.int vd), .val (.int f1), .val (.int f2), .val (.int f3), .val (.int g1), .val (.int g2), .val (.int g3), .val (.int vx), .val (.int vy), .val (.int vz), .val (.ref uf), .val (.int r1), .val (.int r2), .val (.int rA), .val (.int rC), .val (.int o0), .val (.int o1), .val (.int o2), .val (.int o3)] [(.int vc), (.int vb), (.int va), (.int vz), (.int o2)])) (fun t_ k_ => XS.iload X22.here hx rfl (hb hby at_378) rfl k_) ?_
                      refine Go.st (T' := T22) (g' := (mkF m 382 #[.val (.int p1), .val (.int p2), .val (.int p3), .val (.int va), .val (.int vb), .val (.int vc), .val (.int vd), .val (.int f1), .val (.int f2), .val (.int f3), .val (.int g1), .val (.int g2), .val (.int g3), .val (.int vx), .val (.int vy), .val (.int vz), .val (.ref uf), .val (.int r1), .val (.int r2), .val (.int rA), .val (.int rC), .val (.int o0), .val (.int o1), .val (.int o2), .val (.int o3)] [(.int vd), (.int vc), (.int vb), (.int va), (.int vz), (.int o2)])) (fun t_ k_ => XS.iload X22.here hx rfl (hb hby at_380) rfl k_) ?_
                      refine Go.st (T' := T22) (g' := (mkF m 384 #[.val (.int p1), .val (.int p2), .val (.int p3), .val (.int va), .val (.int vb), .val (.int vc), .val (.int vd), .val (.int f1), .val (.int f2), .val (.int f3), .val (.int g1), .val (.int g2), .val (.int g3), .val (.int vx), .val (.int vy), .val (.int vz), .val (.ref uf), .val (.int r1), .val (.int r2), .val (.int rA), .val (.int rC), .val (.int o0), .val (.int o1), .val (.int o2), .val (.int o3)] [(.int f1), (.int vd), (.int vc), (.int vb), (.int va), (.int vz), (.int o2)])) (fun t_ k_ => XS.iload X22.here hx rfl (hb hby at_382) rfl k_) ?_
                      refine Go.st (T' := T22) (g' := (mkF m 386 #[.val (.int p1), .val (.int p2), .val (.int p3), .val (.int va), .val (.int vb), .val (.int vc), .val (.int vd), .val (.int f1), .val (.int f2), .val (.int f3), .val (.int g1), .val (.int g2), .val (.int g3), .val (.int vx), .val (.int vy), .val (.int vz), .val (.ref uf), .val (.int r1), .val (.int r2), .val (.int rA), .val (.int rC), .val (.int o0), .val (.int o1), .val (.int o2), .val (.int o3)] [(.int f2), (.int f1), (.int vd), (.int vc), (.int vb), (.int va), (.int vz), (.int o2)])) (fun t_ k_ => XS.iload X22.here hx rfl (hb hby at_384) rfl k_) ?_
                      refine Go.st (T' := T22) (g' := (mkF m 388 #[.val (.int p1), .val (.int p2), .val (.int p3), .val (.int va), .val (.int vb), .val (.int vc), .val (.int vd), .val (.int f1), .val (.int f2), .val (.int f3), .val (.int g1), .val (.int g2), .val (.int g3), .val (.int vx), .val (.int vy), .val (.int vz), .val (.ref uf), .val (.int r1), .val (.int r2), .val (.int rA), .val (.int rC), .val (.int o0), .val (.int o1), .val (.int o2), .val (.int o3)] [(.int rA), (.int f2), (.int f1), (.int vd), (.int vc), (.int vb), (.int va), (.int vz), (.int o2)])) (fun t_ k_ => XS.iload X22.here hx rfl (hb hby at_386) rfl k_) ?_
                      refine Go.st (T' := T22) (g' := (mkF m 390 #[.val (.int p1), .val (.int p2), .val (.int p3), .val (.int va), .val (.int vb), .val (.int vc), .val (.int vd), .val (.int f1), .val (.int f2), .val (.int f3), .val (.int g1), .val (.int g2), .val (.int g3), .val (.int vx), .val (.int vy), .val (.int vz), .val (.ref uf), .val (.int r1), .val (.int r2), .val (.int rA), .val (.int rC), .val (.int o0), .val (.int o1), .val (.int o2), .val (.int o3)] [(.int rC), (.int rA), (.int f2), (.int f1), (.int vd), (.int vc), (.int vb), (.int va), (.int vz), (.int o2)])) (fun t_ k_ => XS.iload X22.here hx rfl (hb hby at_388) rfl k_) ?_
                      refine goStatic X22 hx hZ (y := (⟨"com/example/cellsight/cellsight/analysis/UnionFindFindPinLaw", "expected", "(IIIIIZZII)I"⟩ : MethodName)) hown (hw _ (List.mem_of_getElem? (i := 20) rfl)) (hw _ (List.mem_of_getElem? (i := 21) rfl)) (hw _ (List.mem_of_getElem? (i := 22) rfl)) (hw _ (List.mem_of_getElem? (i := 23) rfl)) (by decide) (rm4 l Z a0 hw [] n0 h20 vz va vb vc vd f1 f2 rA rC sz20) 1 (by decide) (by decide) (by rw [hml]; rfl) [(.int vz), (.int va), (.int vb), (.int vc), (.int vd), (.int f1), (.int f2), (.int rA), (.int rC)] [(.int o2)] (lenOf pd_32950785 rfl) rfl rfl rfl (hb hby at_390) (by decide) (by decide) fun v23 T23 h23 X23 hq23 => ?_
                      obtain ⟨x2, rfl, eh23, u2⟩ := hq23
                      rw [eh23] at X23
                      show Go p e below _ T23 (mkF m 393 #[.val (.int p1), .val (.int p2), .val (.int p3), .val (.int va), .val (.int vb), .val (.int vc), .val (.int vd), .val (.int f1), .val (.int f2), .val (.int f3), .val (.int g1), .val (.int g2), .val (.int g3), .val (.int vx), .val (.int vy), .val (.int vz), .val (.ref uf), .val (.int r1), .val (.int r2), .val (.int rA), .val (.int rC), .val (.int o0), .val (.int o1), .val (.int o2), .val (.int o3)] [(.int x2), (.int o2)])
                      have hc393 : o2 = x2 := by rw [u2]; exact own_fin t2 hvz h4.1.1 h4.2.1.1 h4.2.2.1.1 h4.2.2.2.1 hA hC
                      refine Go.st (T' := T23) (g' := (mkF m 396 #[.val (.int p1), .val (.int p2), .val (.int p3), .val (.int va), .val (.int vb), .val (.int vc), .val (.int vd), .val (.int f1), .val (.int f2), .val (.int f3), .val (.int g1), .val (.int g2), .val (.int g3), .val (.int vx), .val (.int vy), .val (.int vz), .val (.ref uf), .val (.int r1), .val (.int r2), .val (.int rA), .val (.int rC), .val (.int o0), .val (.int o1), .val (.int o2), .val (.int o3)] [])) (fun t_ k_ => XS.icmpNo X23.here hx rfl (hb hby at_393) rfl (teq hc393).2 k_) ?_
                      refine Go.st (T' := T23) (g' := (mkF m 398 #[.val (.int p1), .val (.int p2), .val (.int p3), .val (.int va), .val (.int vb), .val (.int vc), .val (.int vd), .val (.int f1), .val (.int f2), .val (.int f3), .val (.int g1), .val (.int g2), .val (.int g3), .val (.int vx), .val (.int vy), .val (.int vz), .val (.ref uf), .val (.int r1), .val (.int r2), .val (.int rA), .val (.int rC), .val (.int o0), .val (.int o1), .val (.int o2), .val (.int o3)] [(.int o3)])) (fun t_ k_ => XS.iload X23.here hx rfl (hb hby at_396) rfl k_) ?_
                      refine Go.st (T' := T23) (g' := (mkF m 400 #[.val (.int p1), .val (.int p2), .val (.int p3), .val (.int va), .val (.int vb), .val (.int vc), .val (.int vd), .val (.int f1), .val (.int f2), .val (.int f3), .val (.int g1), .val (.int g2), .val (.int g3), .val (.int vx), .val (.int vy), .val (.int vz), .val (.ref uf), .val (.int r1), .val (.int r2), .val (.int rA), .val (.int rC), .val (.int o0), .val (.int o1), .val (.int o2), .val (.int o3)] [(.int vx), (.int o3)])) (fun t_ k_ => XS.iload X23.here hx rfl (hb hby at_398) rfl k_) ?_
                      refine Go.st (T' := T23) (g' := (mkF m 401 #[.val (.int p1), .val (.int p2), .val (.int p3), .val (.int va), .val (.int vb), .val (.int vc), .val (.int vd), .val (.int f1), .val (.int f2), .val (.int f3), .val (.int g1), .val (.int g2), .val (.int g3), .val (.int vx), .val (.int vy), .val (.int vz), .val (.ref uf), .val (.int r1), .val (.int r2), .val (.int rA), .val (.int rC), .val (.int o0), .val (.int o1), .val (.int o2), .val (.int o3)] [(.int va), (.int vx), (.int o3)])) (fun t_ k_ => XS.iloadN X23.here hx rfl (hb hby at_400) rfl k_) ?_
                      refine Go.st (T' := T23) (g' := (mkF m 403 #[.val (.int p1), .val (.int p2), .val (.int p3), .val (.int va), .val (.int vb), .val (.int vc), .val (.int vd), .val (.int f1), .val (.int f2), .val (.int f3), .val (.int g1), .val (.int g2), .val (.int g3), .val (.int vx), .val (.int vy), .val (.int vz), .val (.ref uf), .val (.int r1), .val (.int r2), .val (.int rA), .val (.int rC), .val (.int o0), .val (.int o1), .val (.int o2), .val (.int o3)] [(.int vb), (.int va), (.int vx), (.int o3)])) (fun t_ k_ => XS.iload X23.here hx rfl (hb hby at_401) rfl k_) ?_
                      refine Go.st (T' := T23) (g' := (mkF m 405 #[.val (.int p1), .val (.int p2), .val (.int p3), .val (.int va), .val (.int vb), .val (.int vc), .val (.int vd), .val (.int f1), .val (.int f2), .val (.int f3), .val (.int g1), .val (.int g2), .val (.int g3), .val (.int vx), .val (.int vy), .val (.int vz), .val (.ref uf), .val (.int r1), .val (.int r2), .val (.int rA), .val (.int rC), .val (.int o0), .val (.int o1), .val (.int o2), .val (.int o3)] [(.int vc), (.int vb), (.int va), (.int vx), (.int o3)])) (fun t_ k_ => XS.iload X23.here hx rfl (hb hby at_403) rfl k_) ?_
                      refine Go.st (T' := T23) (g' := (mkF m 407 #[.val (.int p1), .val (.int p2), .val (.int p3), .val (.int va), .val (.int vb), .val (.int vc), .val (.int vd), .val (.int f1), .val (.int f2), .val (.int f3), .val (.int g1), .val (.int g2), .val (.int g3), .val (.int vx), .val (.int vy), .val (.int vz), .val (.ref uf), .val (.int r1), .val (.int r2), .val (.int rA), .val (.int rC), .val (.int o0), .val (.int o1), .val (.int o2), .val (.int o3)] [(.int vd), (.int vc), (.int vb), (.int va), (.int vx), (.int o3)])) (fun t_ k_ => XS.iload X23.here hx rfl (hb hby at_405) rfl k_) ?_
                      refine Go.st (T' := T23) (g' := (mkF m 409 #[.val (.int p1), .val (.int p2), .val (.int p3), .val (.int va), .val (.int vb), .val (.int vc), .val (.int vd), .val (.int f1), .val (.int f2), .val (.int f3), .val (.int g1), .val (.int g2), .val (.int g3), .val (.int vx), .val (.int vy), .val (.int vz), .val (.ref uf), .val (.int r1), .val (.int r2), .val (.int rA), .val (.int rC), .val (.int o0), .val (.int o1), .val (.int o2), .val (.int o3)] [(.int f1), (.int vd), (.int vc), (.int vb), (.int va), (.int vx), (.int o3)])) (fun t_ k_ => XS.iload X23.here hx rfl (hb hby at_407) rfl k_) ?_
                      refine Go.st (T' := T23) (g' := (mkF m 411 #[.val (.int p1), .val (.int p2), .val (.int p3), .val (.int va), .val (.int vb), .val (.int vc), .val (.int vd), .val (.int f1), .val (.int f2), .val (.int f3), .val (.int g1), .val (.int g2), .val (.int g3), .val (.int vx), .val (.int vy), .val (.int vz), .val (.ref uf), .val (.int r1), .val (.int r2), .val (.int rA), .val (.int rC), .val (.int o0), .val (.int o1), .val (.int o2), .val (.int o3)] [(.int f2), (.int f1), (.int vd), (.int vc), (.int vb), (.int va), (.int vx), (.int o3)])) (fun t_ k_ => XS.iload X23.here hx rfl (hb hby at_409) rfl k_) ?_
                      refine Go.st (T' := T23) (g' := (mkF m 413 #[.val (.int p1), .val (.int p2), .val (.int p3), .val (.int va), .val (.int vb), .val (.int vc), .val (.int vd), .val (.int f1), .val (.int f2), .val (.int f3), .val (.int g1), .val (.int g2), .val (.int g3), .val (.int vx), .val (.int vy), .val (.int vz), .val (.ref uf), .val (.int r1), .val (.int r2), .val (.int rA), .val (.int rC), .val (.int o0), .val (.int o1), .val (.int o2), .val (.int o3)] [(.int rA), (.int f2), (.int f1), (.int vd), (.int vc), (.int vb), (.int va), (.int vx), (.int o3)])) (fun t_ k_ => XS.iload X23.here hx rfl (hb hby at_411) rfl k_) ?_
                      refine Go.st (T' := T23) (g' := (mkF m 415 #[.val (.int p1), .val (.int p2), .val (.int p3), .val (.int va), .val (.int vb), .val (.int vc), .val (.int vd), .val (.int f1), .val (.int f2), .val (.int f3), .val (.int g1), .val (.int g2), .val (.int g3), .val (.int vx), .val (.int vy), .val (.int vz), .val (.ref uf), .val (.int r1), .val (.int r2), .val (.int rA), .val (.int rC), .val (.int o0), .val (.int o1), .val (.int o2), .val (.int o3)] [(.int rC), (.int rA), (.int f2), (.int f1), (.int vd), (.int vc), (.int vb), (.int va), (.int vx), (.int o3)])) (fun t_ k_ => XS.iload X23.here hx rfl (hb hby at_413) rfl k_) ?_
                      refine goStatic X23 hx hZ (y := (⟨"com/example/cellsight/cellsight/analysis/UnionFindFindPinLaw", "expected", "(IIIIIZZII)I"⟩ : MethodName)) hown (hw _ (List.mem_of_getElem? (i := 20) rfl)) (hw _ (List.mem_of_getElem? (i := 21) rfl)) (hw _ (List.mem_of_getElem? (i := 22) rfl)) (hw _ (List.mem_of_getElem? (i := 23) rfl)) (by decide) (rm4 l Z a0 hw [] n0 h20 vx va vb vc vd f1 f2 rA rC sz20) 1 (by decide) (by decide) (by rw [hml]; rfl) [(.int vx), (.int va), (.int vb), (.int vc), (.int vd), (.int f1), (.int f2), (.int rA), (.int rC)] [(.int o3)] (lenOf pd_32950785 rfl) rfl rfl rfl (hb hby at_415) (by decide) (by decide) fun v24 T24 h24 X24 hq24 => ?_
                      obtain ⟨x3, rfl, eh24, u3⟩ := hq24
                      rw [eh24] at X24
                      show Go p e below _ T24 (mkF m 418 #[.val (.int p1), .val (.int p2), .val (.int p3), .val (.int va), .val (.int vb), .val (.int vc), .val (.int vd), .val (.int f1), .val (.int f2), .val (.int f3), .val (.int g1), .val (.int g2), .val (.int g3), .val (.int vx), .val (.int vy), .val (.int vz), .val (.ref uf), .val (.int r1), .val (.int r2), .val (.int rA), .val (.int rC), .val (.int o0), .val (.int o1), .val (.int o2), .val (.int o3)] [(.int x3), (.int o3)])
                      have hc418 : o3 = x3 := by rw [u3]; exact own_fin t3 hvx h4.1.1 h4.2.1.1 h4.2.2.1.1 h4.2.2.2.1 hA hC
                      refine Go.st (T' := T24) (g' := (mkF m 421 #[.val (.int p1), .val (.int p2), .val (.int p3), .val (.int va), .val (.int vb), .val (.int vc), .val (.int vd), .val (.int f1), .val (.int f2), .val (.int f3), .val (.int g1), .val (.int g2), .val (.int g3), .val (.int vx), .val (.int vy), .val (.int vz), .val (.ref uf), .val (.int r1), .val (.int r2), .val (.int rA), .val (.int rC), .val (.int o0), .val (.int o1), .val (.int o2), .val (.int o3)] [])) (fun t_ k_ => XS.icmpNo X24.here hx rfl (hb hby at_418) rfl (teq hc418).2 k_) ?_
                      refine Go.st (T' := T24) (g' := (mkF m 422 #[.val (.int p1), .val (.int p2), .val (.int p3), .val (.int va), .val (.int vb), .val (.int vc), .val (.int vd), .val (.int f1), .val (.int f2), .val (.int f3), .val (.int g1), .val (.int g2), .val (.int g3), .val (.int vx), .val (.int vy), .val (.int vz), .val (.ref uf), .val (.int r1), .val (.int r2), .val (.int rA), .val (.int rC), .val (.int o0), .val (.int o1), .val (.int o2), .val (.int o3)] [(.int (1 : Int32))])) (fun t_ k_ => XS.iconst X24.here hx rfl (hb hby at_421) k_) ?_
                      refine Go.st (T' := T24) (g' := (mkF m 426 #[.val (.int p1), .val (.int p2), .val (.int p3), .val (.int va), .val (.int vb), .val (.int vc), .val (.int vd), .val (.int f1), .val (.int f2), .val (.int f3), .val (.int g1), .val (.int g2), .val (.int g3), .val (.int vx), .val (.int vy), .val (.int vz), .val (.ref uf), .val (.int r1), .val (.int r2), .val (.int rA), .val (.int rC), .val (.int o0), .val (.int o1), .val (.int o2), .val (.int o3)] [(.int (1 : Int32))])) (fun t_ k_ => XS.goto X24.here hx rfl (pc0 := 422) (pc' := 426) rfl (hb hby at_422) (by decide) (by decide) k_) ?_
                      refine goRetZ X24 hx hlk hret (hb hby at_426) (by decide) (by decide) (Or.inr rfl) ?_
                      exact rfl
                  by_cases hc246 : f3 = (0 : Int32)
                  · skip
                    refine Go.st (T' := T_J236) (g' := (mkF m 285 #[.val (.int p1), .val (.int p2), .val (.int p3), .val (.int va), .val (.int vb), .val (.int vc), .val (.int vd), .val (.int f1), .val (.int f2), .val (.int f3), .val (.int g1), .val (.int g2), .val (.int g3), .val (.int vx), .val (.int vy), .val (.int vz), .val (.ref uf), .val (.int r1), .val (.int r2), .val (.int r1), .val (.int r2), .unset, .unset, .unset, .unset] [])) (fun t_ k_ => XS.ifYes X_J236.here hx rfl (pc0 := 246) (pc' := 285) rfl (hb hby at_246) rfl ((if0 _ _).trans (teq hc246).1) (by decide) (by decide) k_) ?_
                    exact J285 r1 r2 (.unset) pA kA n par rk T_J236 h_J236 (X_J236.mono (by decide) (by decide)) sz_J236 g0_J236 g1_J236 g2_J236 g3_J236 g4_J236 g5_J236 g6_J236 g7_J236 g8_J236 g9_J236 g10_J236 (hS2) (hn2) ((own_rg1 h4 hr1).1) ((own_rg2 h4 hr2).1) (Or.inl rfl)
                  · skip
                    refine Go.st (T' := T_J236) (g' := (mkF m 249 #[.val (.int p1), .val (.int p2), .val (.int p3), .val (.int va), .val (.int vb), .val (.int vc), .val (.int vd), .val (.int f1), .val (.int f2), .val (.int f3), .val (.int g1), .val (.int g2), .val (.int g3), .val (.int vx), .val (.int vy), .val (.int vz), .val (.ref uf), .val (.int r1), .val (.int r2), .val (.int r1), .val (.int r2), .unset, .unset, .unset, .unset] [])) (fun t_ k_ => XS.ifNo X_J236.here hx rfl (hb hby at_246) rfl ((if0 _ _).trans (feq hc246).1) k_) ?_
                    refine Go.st (T' := T_J236) (g' := (mkF m 251 #[.val (.int p1), .val (.int p2), .val (.int p3), .val (.int va), .val (.int vb), .val (.int vc), .val (.int vd), .val (.int f1), .val (.int f2), .val (.int f3), .val (.int g1), .val (.int g2), .val (.int g3), .val (.int vx), .val (.int vy), .val (.int vz), .val (.ref uf), .val (.int r1), .val (.int r2), .val (.int r1), .val (.int r2), .unset, .unset, .unset, .unset] [(.int g3)])) (fun t_ k_ => XS.iload X_J236.here hx rfl (hb hby at_249) rfl k_) ?_
                    by_cases hc251 : g3 = (0 : Int32)
                    · skip
                      refine Go.st (T' := T_J236) (g' := (mkF m 266 #[.val (.int p1), .val (.int p2), .val (.int p3), .val (.int va), .val (.int vb), .val (.int vc), .val (.int vd), .val (.int f1), .val (.int f2), .val (.int f3), .val (.int g1), .val (.int g2), .val (.int g3), .val (.int vx), .val (.int vy), .val (.int vz), .val (.ref uf), .val (.int r1), .val (.int r2), .val (.int r1), .val (.int r2), .unset, .unset, .unset, .unset] [])) (fun t_ k_ => XS.ifYes X_J236.here hx rfl (pc0 := 251) (pc' := 266) rfl (hb hby at_251) rfl ((if0 _ _).trans (teq hc251).1) (by decide) (by decide) k_) ?_
                      refine Go.st (T' := T_J236) (g' := (mkF m 268 #[.val (.int p1), .val (.int p2), .val (.int p3), .val (.int va), .val (.int vb), .val (.int vc), .val (.int vd), .val (.int f1), .val (.int f2), .val (.int f3), .val (.int g1), .val (.int g2), .val (.int g3), .val (.int vx), .val (.int vy), .val (.int vz), .val (.ref uf), .val (.int r1), .val (.int r2), .val (.int r1), .val (.int r2), .unset, .unset, .unset, .unset] [(.ref uf)])) (fun t_ k_ => XS.aload X_J236.here hx rfl (hb hby at_266) rfl rfl k_) ?_
                      refine Go.st (T' := T_J236) (g' := (mkF m 270 #[.val (.int p1), .val (.int p2), .val (.int p3), .val (.int va), .val (.int vb), .val (.int vc), .val (.int vd), .val (.int f1), .val (.int f2), .val (.int f3), .val (.int g1), .val (.int g2), .val (.int g3), .val (.int vx), .val (.int vy), .val (.int vz), .val (.ref uf), .val (.int r1), .val (.int r2), .val (.int r1), .val (.int r2), .unset, .unset, .unset, .unset] [(.int r1), (.ref uf)])) (fun t_ k_ => XS.iload X_J236.here hx rfl (hb hby at_268) rfl k_) ?_
                      refine Go.st (T' := T_J236) (g' := (mkF m 272 #[.val (.int p1), .val (.int p2), .val (.int p3), .val (.int va), .val (.int vb), .val (.int vc), .val (.int vd), .val (.int f1), .val (.int f2), .val (.int f3), .val (.int g1), .val (.int g2), .val (.int g3), .val (.int vx), .val (.int vy), .val (.int vz), .val (.ref uf), .val (.int r1), .val (.int r2), .val (.int r1), .val (.int r2), .unset, .unset, .unset, .unset] [(.int r2), (.int r1), (.ref uf)])) (fun t_ k_ => XS.iload X_J236.here hx rfl (hb hby at_270) rfl k_) ?_
                      refine goVirtS X_J236 hx hZ (y := (⟨"com/example/cellsight/cellsight/analysis/UnionFind", "link", "(II)I"⟩ : MethodName)) hown (hw _ (List.mem_of_getElem? (i := 24) rfl)) (hw _ (List.mem_of_getElem? (i := 25) rfl)) (hw _ (List.mem_of_getElem? (i := 27) rfl)) (hw _ (List.mem_of_getElem? (i := 26) rfl)) (hw _ (List.mem_of_getElem? (i := 3) rfl)) (hw _ (List.mem_of_getElem? (i := 28) rfl)) (by decide) g0_J236 (rm5 l Z a0 hw [] n0 h_J236 uf r1 r2 pA kA n par rk (own_R va vb vc vd f1 f2 r1 r2) sz_J236 g0_J236 g1_J236 g2_J236 g3_J236 g4_J236 g5_J236 g6_J236 g7_J236 g8_J236 g9_J236 g10_J236 (hS2) (hn2) (own_rg1 h4 hr1) (own_rg2 h4 hr2) ((own_e3 (f1 := f1) (f2 := f2) h4 hr1 hf1 hr2 hf2).2.2) ((own_e3 (f1 := f1) (f2 := f2) h4 hr1 hf1 hr2 hf2).1) ((own_e3 (f1 := f1) (f2 := f2) h4 hr1 hf1 hr2 hf2).2.1)) 0 (by decide) (by decide) (by rw [hml]; rfl) [(.int r1), (.int r2)] [] (lenOf pd_e58254ff rfl) rfl rfl rfl (hb hby at_272) (by decide) (by decide) fun v25 T25 h25 X25 hq25 => ?_
                      obtain ⟨q3, pA'_25, kA'_25, n'_25, par'_25, rk'_25, rfl, K25c, p25_0, p25_1, p25_2, p25_3, p25_4, p25_5, p25_6, p25_7, p25_8, p25_9, p25_10, hL3, hn3', hq3⟩ := hq25
                      have f25_4 : Exa Z h25 uf "com/example/cellsight/cellsight/analysis/UnionFind" := g0_J236.keep K25c
                      have f25_5 : Exa Z h25 pA "[I" := g3_J236.keep K25c
                      have f25_6 : Exa Z h25 kA "[I" := g4_J236.keep K25c
                      have sz25 : n0 ≤ h25.size := Nat.le_trans sz_J236 K25c.1
                      show Go p e below _ T25 (mkF m 275 #[.val (.int p1), .val (.int p2), .val (.int p3), .val (.int va), .val (.int vb), .val (.int vc), .val (.int vd), .val (.int f1), .val (.int f2), .val (.int f3), .val (.int g1), .val (.int g2), .val (.int g3), .val (.int vx), .val (.int vy), .val (.int vz), .val (.ref uf), .val (.int r1), .val (.int r2), .val (.int r1), .val (.int r2), .unset, .unset, .unset, .unset] [(.int q3)])
                      refine Go.st (T' := T25) (g' := (mkF m 277 #[.val (.int p1), .val (.int p2), .val (.int p3), .val (.int va), .val (.int vb), .val (.int vc), .val (.int vd), .val (.int f1), .val (.int f2), .val (.int f3), .val (.int g1), .val (.int g2), .val (.int g3), .val (.int vx), .val (.int vy), .val (.int vz), .val (.ref uf), .val (.int r1), .val (.int r2), .val (.int r1), .val (.int r2), .val (.int q3), .unset, .unset, .unset] [])) (fun t_ k_ => XS.istore X25.here hx rfl (hb hby at_275) rfl (l' := #[.val (.int p1), .val (.int p2), .val (.int p3), .val (.int va), .val (.int vb), .val (.int vc), .val (.int vd), .val (.int f1), .val (.int f2), .val (.int f3), .val (.int g1), .val (.int g2), .val (.int g3), .val (.int vx), .val (.int vy), .val (.int vz), .val (.ref uf), .val (.int r1), .val (.int r2), .val (.int r1), .val (.int r2), .val (.int q3), .unset, .unset, .unset]) rfl k_) ?_
                      refine Go.st (T' := T25) (g' := (mkF m 279 #[.val (.int p1), .val (.int p2), .val (.int p3), .val (.int va), .val (.int vb), .val (.int vc), .val (.int vd), .val (.int f1), .val (.int f2), .val (.int f3), .val (.int g1), .val (.int g2), .val (.int g3), .val (.int vx), .val (.int vy), .val (.int vz), .val (.ref uf), .val (.int r1), .val (.int r2), .val (.int r1), .val (.int r2), .val (.int q3), .unset, .unset, .unset] [(.int q3)])) (fun t_ k_ => XS.iload X25.here hx rfl (hb hby at_277) rfl k_) ?_
                      refine Go.st (T' := T25) (g' := (mkF m 281 #[.val (.int p1), .val (.int p2), .val (.int p3), .val (.int va), .val (.int vb), .val (.int vc), .val (.int vd), .val (.int f1), .val (.int f2), .val (.int f3), .val (.int g1), .val (.int g2), .val (.int g3), .val (.int vx), .val (.int vy), .val (.int vz), .val (.ref uf), .val (.int r1), .val (.int r2), .val (.int q3), .val (.int r2), .val (.int q3), .unset, .unset, .unset] [])) (fun t_ k_ => XS.istore X25.here hx rfl (hb hby at_279) rfl (l' := #[.val (.int p1), .val (.int p2), .val (.int p3), .val (.int va), .val (.int vb), .val (.int vc), .val (.int vd), .val (.int f1), .val (.int f2), .val (.int f3), .val (.int g1), .val (.int g2), .val (.int g3), .val (.int vx), .val (.int vy), .val (.int vz), .val (.ref uf), .val (.int r1), .val (.int r2), .val (.int q3), .val (.int r2), .val (.int q3), .unset, .unset, .unset]) rfl k_) ?_
                      refine Go.st (T' := T25) (g' := (mkF m 283 #[.val (.int p1), .val (.int p2), .val (.int p3), .val (.int va), .val (.int vb), .val (.int vc), .val (.int vd), .val (.int f1), .val (.int f2), .val (.int f3), .val (.int g1), .val (.int g2), .val (.int g3), .val (.int vx), .val (.int vy), .val (.int vz), .val (.ref uf), .val (.int r1), .val (.int r2), .val (.int q3), .val (.int r2), .val (.int q3), .unset, .unset, .unset] [(.int q3)])) (fun t_ k_ => XS.iload X25.here hx rfl (hb hby at_281) rfl k_) ?_
                      refine Go.st (T' := T25) (g' := (mkF m 285 #[.val (.int p1), .val (.int p2), .val (.int p3), .val (.int va), .val (.int vb), .val (.int vc), .val (.int vd), .val (.int f1), .val (.int f2), .val (.int f3), .val (.int g1), .val (.int g2), .val (.int g3), .val (.int vx), .val (.int vy), .val (.int vz), .val (.ref uf), .val (.int r1), .val (.int r2), .val (.int q3), .val (.int q3), .val (.int q3), .unset, .unset, .unset] [])) (fun t_ k_ => XS.istore X25.here hx rfl (hb hby at_283) rfl (l' := #[.val (.int p1), .val (.int p2), .val (.int p3), .val (.int va), .val (.int vb), .val (.int vc), .val (.int vd), .val (.int f1), .val (.int f2), .val (.int f3), .val (.int g1), .val (.int g2), .val (.int g3), .val (.int vx), .val (.int vy), .val (.int vz), .val (.ref uf), .val (.int r1), .val (.int r2), .val (.int q3), .val (.int q3), .val (.int q3), .unset, .unset, .unset]) rfl k_) ?_
                      exact J285 q3 q3 (.val (.int q3)) pA'_25 kA'_25 n'_25 (fun i => (par'_25 i)) (fun i => (rk'_25 i)) T25 h25 (X25.mono (by decide) (by decide)) sz25 p25_0 p25_1 p25_2 p25_3 p25_4 p25_5 p25_6 p25_7 p25_8 p25_9 p25_10 (hL3.congr (own_c3 h4 hr1 hf1 hr2 hf2 (Or.inl ⟨rfl, rfl⟩))) (hn3') (by rcases hq3 with z | z <;> rw [z]; all_goals first | exact (own_rg1 h4 hr1).1 | exact (own_rg2 h4 hr2).1) (by rcases hq3 with z | z <;> rw [z]; all_goals first | exact (own_rg1 h4 hr1).1 | exact (own_rg2 h4 hr2).1) (Or.inr ⟨_, rfl⟩)
                    · skip
                      refine Go.st (T' := T_J236) (g' := (mkF m 254 #[.val (.int p1), .val (.int p2), .val (.int p3), .val (.int va), .val (.int vb), .val (.int vc), .val (.int vd), .val (.int f1), .val (.int f2), .val (.int f3), .val (.int g1), .val (.int g2), .val (.int g3), .val (.int vx), .val (.int vy), .val (.int vz), .val (.ref uf), .val (.int r1), .val (.int r2), .val (.int r1), .val (.int r2), .unset, .unset, .unset, .unset] [])) (fun t_ k_ => XS.ifNo X_J236.here hx rfl (hb hby at_251) rfl ((if0 _ _).trans (feq hc251).1) k_) ?_
                      refine Go.st (T' := T_J236) (g' := (mkF m 256 #[.val (.int p1), .val (.int p2), .val (.int p3), .val (.int va), .val (.int vb), .val (.int vc), .val (.int vd), .val (.int f1), .val (.int f2), .val (.int f3), .val (.int g1), .val (.int g2), .val (.int g3), .val (.int vx), .val (.int vy), .val (.int vz), .val (.ref uf), .val (.int r1), .val (.int r2), .val (.int r1), .val (.int r2), .unset, .unset, .unset, .unset] [(.ref uf)])) (fun t_ k_ => XS.aload X_J236.here hx rfl (hb hby at_254) rfl rfl k_) ?_
                      refine Go.st (T' := T_J236) (g' := (mkF m 258 #[.val (.int p1), .val (.int p2), .val (.int p3), .val (.int va), .val (.int vb), .val (.int vc), .val (.int vd), .val (.int f1), .val (.int f2), .val (.int f3), .val (.int g1), .val (.int g2), .val (.int g3), .val (.int vx), .val (.int vy), .val (.int vz), .val (.ref uf), .val (.int r1), .val (.int r2), .val (.int r1), .val (.int r2), .unset, .unset, .unset, .unset] [(.int r2), (.ref uf)])) (fun t_ k_ => XS.iload X_J236.here hx rfl (hb hby at_256) rfl k_) ?_
                      refine Go.st (T' := T_J236) (g' := (mkF m 260 #[.val (.int p1), .val (.int p2), .val (.int p3), .val (.int va), .val (.int vb), .val (.int vc), .val (.int vd), .val (.int f1), .val (.int f2), .val (.int f3), .val (.int g1), .val (.int g2), .val (.int g3), .val (.int vx), .val (.int vy), .val (.int vz), .val (.ref uf), .val (.int r1), .val (.int r2), .val (.int r1), .val (.int r2), .unset, .unset, .unset, .unset] [(.int r1), (.int r2), (.ref uf)])) (fun t_ k_ => XS.iload X_J236.here hx rfl (hb hby at_258) rfl k_) ?_
                      refine goVirtS X_J236 hx hZ (y := (⟨"com/example/cellsight/cellsight/analysis/UnionFind", "link", "(II)I"⟩ : MethodName)) hown (hw _ (List.mem_of_getElem? (i := 24) rfl)) (hw _ (List.mem_of_getElem? (i := 25) rfl)) (hw _ (List.mem_of_getElem? (i := 27) rfl)) (hw _ (List.mem_of_getElem? (i := 26) rfl)) (hw _ (List.mem_of_getElem? (i := 3) rfl)) (hw _ (List.mem_of_getElem? (i := 28) rfl)) (by decide) g0_J236 (rm5 l Z a0 hw [] n0 h_J236 uf r2 r1 pA kA n par rk (own_R va vb vc vd f1 f2 r1 r2) sz_J236 g0_J236 g1_J236 g2_J236 g3_J236 g4_J236 g5_J236 g6_J236 g7_J236 g8_J236 g9_J236 g10_J236 (hS2) (hn2) (own_rg2 h4 hr2) (own_rg1 h4 hr1) (fun z => (own_e3 (f1 := f1) (f2 := f2) h4 hr1 hf1 hr2 hf2).2.2 z.symm) ((own_e3 (f1 := f1) (f2 := f2) h4 hr1 hf1 hr2 hf2).2.1) ((own_e3 (f1 := f1) (f2 := f2) h4 hr1 hf1 hr2 hf2).1)) 0 (by decide) (by decide) (by rw [hml]; rfl) [(.int r2), (.int r1)] [] (lenOf pd_e58254ff rfl) rfl rfl rfl (hb hby at_260) (by decide) (by decide) fun v26 T26 h26 X26 hq26 => ?_
                      obtain ⟨q3, pA'_26, kA'_26, n'_26, par'_26, rk'_26, rfl, K26c, p26_0, p26_1, p26_2, p26_3, p26_4, p26_5, p26_6, p26_7, p26_8, p26_9, p26_10, hL3, hn3', hq3⟩ := hq26
                      have f26_4 : Exa Z h26 uf "com/example/cellsight/cellsight/analysis/UnionFind" := g0_J236.keep K26c
                      have f26_5 : Exa Z h26 pA "[I" := g3_J236.keep K26c
                      have f26_6 : Exa Z h26 kA "[I" := g4_J236.keep K26c
                      have sz26 : n0 ≤ h26.size := Nat.le_trans sz_J236 K26c.1
                      show Go p e below _ T26 (mkF m 263 #[.val (.int p1), .val (.int p2), .val (.int p3), .val (.int va), .val (.int vb), .val (.int vc), .val (.int vd), .val (.int f1), .val (.int f2), .val (.int f3), .val (.int g1), .val (.int g2), .val (.int g3), .val (.int vx), .val (.int vy), .val (.int vz), .val (.ref uf), .val (.int r1), .val (.int r2), .val (.int r1), .val (.int r2), .unset, .unset, .unset, .unset] [(.int q3)])
                      refine Go.st (T' := T26) (g' := (mkF m 275 #[.val (.int p1), .val (.int p2), .val (.int p3), .val (.int va), .val (.int vb), .val (.int vc), .val (.int vd), .val (.int f1), .val (.int f2), .val (.int f3), .val (.int g1), .val (.int g2), .val (.int g3), .val (.int vx), .val (.int vy), .val (.int vz), .val (.ref uf), .val (.int r1), .val (.int r2), .val (.int r1), .val (.int r2), .unset, .unset, .unset, .unset] [(.int q3)])) (fun t_ k_ => XS.goto X26.here hx rfl (pc0 := 263) (pc' := 275) rfl (hb hby at_263) (by decide) (by decide) k_) ?_
                      refine Go.st (T' := T26) (g' := (mkF m 277 #[.val (.int p1), .val (.int p2), .val (.int p3), .val (.int va), .val (.int vb), .val (.int vc), .val (.int vd), .val (.int f1), .val (.int f2), .val (.int f3), .val (.int g1), .val (.int g2), .val (.int g3), .val (.int vx), .val (.int vy), .val (.int vz), .val (.ref uf), .val (.int r1), .val (.int r2), .val (.int r1), .val (.int r2), .val (.int q3), .unset, .unset, .unset] [])) (fun t_ k_ => XS.istore X26.here hx rfl (hb hby at_275) rfl (l' := #[.val (.int p1), .val (.int p2), .val (.int p3), .val (.int va), .val (.int vb), .val (.int vc), .val (.int vd), .val (.int f1), .val (.int f2), .val (.int f3), .val (.int g1), .val (.int g2), .val (.int g3), .val (.int vx), .val (.int vy), .val (.int vz), .val (.ref uf), .val (.int r1), .val (.int r2), .val (.int r1), .val (.int r2), .val (.int q3), .unset, .unset, .unset]) rfl k_) ?_
                      refine Go.st (T' := T26) (g' := (mkF m 279 #[.val (.int p1), .val (.int p2), .val (.int p3), .val (.int va), .val (.int vb), .val (.int vc), .val (.int vd), .val (.int f1), .val (.int f2), .val (.int f3), .val (.int g1), .val (.int g2), .val (.int g3), .val (.int vx), .val (.int vy), .val (.int vz), .val (.ref uf), .val (.int r1), .val (.int r2), .val (.int r1), .val (.int r2), .val (.int q3), .unset, .unset, .unset] [(.int q3)])) (fun t_ k_ => XS.iload X26.here hx rfl (hb hby at_277) rfl k_) ?_
                      refine Go.st (T' := T26) (g' := (mkF m 281 #[.val (.int p1), .val (.int p2), .val (.int p3), .val (.int va), .val (.int vb), .val (.int vc), .val (.int vd), .val (.int f1), .val (.int f2), .val (.int f3), .val (.int g1), .val (.int g2), .val (.int g3), .val (.int vx), .val (.int vy), .val (.int vz), .val (.ref uf), .val (.int r1), .val (.int r2), .val (.int q3), .val (.int r2), .val (.int q3), .unset, .unset, .unset] [])) (fun t_ k_ => XS.istore X26.here hx rfl (hb hby at_279) rfl (l' := #[.val (.int p1), .val (.int p2), .val (.int p3), .val (.int va), .val (.int vb), .val (.int vc), .val (.int vd), .val (.int f1), .val (.int f2), .val (.int f3), .val (.int g1), .val (.int g2), .val (.int g3), .val (.int vx), .val (.int vy), .val (.int vz), .val (.ref uf), .val (.int r1), .val (.int r2), .val (.int q3), .val (.int r2), .val (.int q3), .unset, .unset, .unset]) rfl k_) ?_
                      refine Go.st (T' := T26) (g' := (mkF m 283 #[.val (.int p1), .val (.int p2), .val (.int p3), .val (.int va), .val (.int vb), .val (.int vc), .val (.int vd), .val (.int f1), .val (.int f2), .val (.int f3), .val (.int g1), .val (.int g2), .val (.int g3), .val (.int vx), .val (.int vy), .val (.int vz), .val (.ref uf), .val (.int r1), .val (.int r2), .val (.int q3), .val (.int r2), .val (.int q3), .unset, .unset, .unset] [(.int q3)])) (fun t_ k_ => XS.iload X26.here hx rfl (hb hby at_281) rfl k_) ?_
                      refine Go.st (T' := T26) (g' := (mkF m 285 #[.val (.int p1), .val (.int p2), .val (.int p3), .val (.int va), .val (.int vb), .val (.int vc), .val (.int vd), .val (.int f1), .val (.int f2), .val (.int f3), .val (.int g1), .val (.int g2), .val (.int g3), .val (.int vx), .val (.int vy), .val (.int vz), .val (.ref uf), .val (.int r1), .val (.int r2), .val (.int q3), .val (.int q3), .val (.int q3), .unset, .unset, .unset] [])) (fun t_ k_ => XS.istore X26.here hx rfl (hb hby at_283) rfl (l' := #[.val (.int p1), .val (.int p2), .val (.int p3), .val (.int va), .val (.int vb), .val (.int vc), .val (.int vd), .val (.int f1), .val (.int f2), .val (.int f3), .val (.int g1), .val (.int g2), .val (.int g3), .val (.int vx), .val (.int vy), .val (.int vz), .val (.ref uf), .val (.int r1), .val (.int r2), .val (.int q3), .val (.int q3), .val (.int q3), .unset, .unset, .unset]) rfl k_) ?_
                      exact J285 q3 q3 (.val (.int q3)) pA'_26 kA'_26 n'_26 (fun i => (par'_26 i)) (fun i => (rk'_26 i)) T26 h26 (X26.mono (by decide) (by decide)) sz26 p26_0 p26_1 p26_2 p26_3 p26_4 p26_5 p26_6 p26_7 p26_8 p26_9 p26_10 (hL3.congr (own_c3 h4 hr1 hf1 hr2 hf2 (Or.inr ⟨rfl, rfl⟩))) (hn3') (by rcases hq3 with z | z <;> rw [z]; all_goals first | exact (own_rg1 h4 hr1).1 | exact (own_rg2 h4 hr2).1) (by rcases hq3 with z | z <;> rw [z]; all_goals first | exact (own_rg1 h4 hr1).1 | exact (own_rg2 h4 hr2).1) (Or.inr ⟨_, rfl⟩)
                by_cases hc205 : f2 = (0 : Int32)
                · skip
                  refine Go.st (T' := T_J199) (g' := (mkF m 236 #[.val (.int p1), .val (.int p2), .val (.int p3), .val (.int va), .val (.int vb), .val (.int vc), .val (.int vd), .val (.int f1), .val (.int f2), .val (.int f3), .val (.int g1), .val (.int g2), .val (.int g3), .val (.int vx), .val (.int vy), .val (.int vz), .val (.ref uf), .val (.int r1), .val (.int vc), .unset, .unset, .unset, .unset, .unset, .unset] [])) (fun t_ k_ => XS.ifYes X_J199.here hx rfl (pc0 := 205) (pc' := 236) rfl (hb hby at_205) rfl ((if0 _ _).trans (teq hc205).1) (by decide) (by decide) k_) ?_
                  exact J236 vc pA kA n par rk T_J199 h_J199 (X_J199.mono (by decide) (by decide)) sz_J199 g0_J199 g1_J199 g2_J199 g3_J199 g4_J199 g5_J199 g6_J199 g7_J199 g8_J199 g9_J199 g10_J199 (by rw [hc205]; exact hS1) (hn1) (Or.inl rfl) (fun _ => rfl)
                · skip
                  refine Go.st (T' := T_J199) (g' := (mkF m 208 #[.val (.int p1), .val (.int p2), .val (.int p3), .val (.int va), .val (.int vb), .val (.int vc), .val (.int vd), .val (.int f1), .val (.int f2), .val (.int f3), .val (.int g1), .val (.int g2), .val (.int g3), .val (.int vx), .val (.int vy), .val (.int vz), .val (.ref uf), .val (.int r1), .val (.int vc), .unset, .unset, .unset, .unset, .unset, .unset] [])) (fun t_ k_ => XS.ifNo X_J199.here hx rfl (hb hby at_205) rfl ((if0 _ _).trans (feq hc205).1) k_) ?_
                  refine Go.st (T' := T_J199) (g' := (mkF m 210 #[.val (.int p1), .val (.int p2), .val (.int p3), .val (.int va), .val (.int vb), .val (.int vc), .val (.int vd), .val (.int f1), .val (.int f2), .val (.int f3), .val (.int g1), .val (.int g2), .val (.int g3), .val (.int vx), .val (.int vy), .val (.int vz), .val (.ref uf), .val (.int r1), .val (.int vc), .unset, .unset, .unset, .unset, .unset, .unset] [(.int g2)])) (fun t_ k_ => XS.iload X_J199.here hx rfl (hb hby at_208) rfl k_) ?_
                  by_cases hc210 : g2 = (0 : Int32)
                  · skip
                    refine Go.st (T' := T_J199) (g' := (mkF m 225 #[.val (.int p1), .val (.int p2), .val (.int p3), .val (.int va), .val (.int vb), .val (.int vc), .val (.int vd), .val (.int f1), .val (.int f2), .val (.int f3), .val (.int g1), .val (.int g2), .val (.int g3), .val (.int vx), .val (.int vy), .val (.int vz), .val (.ref uf), .val (.int r1), .val (.int vc), .unset, .unset, .unset, .unset, .unset, .unset] [])) (fun t_ k_ => XS.ifYes X_J199.here hx rfl (pc0 := 210) (pc' := 225) rfl (hb hby at_210) rfl ((if0 _ _).trans (teq hc210).1) (by decide) (by decide) k_) ?_
                    refine Go.st (T' := T_J199) (g' := (mkF m 227 #[.val (.int p1), .val (.int p2), .val (.int p3), .val (.int va), .val (.int vb), .val (.int vc), .val (.int vd), .val (.int f1), .val (.int f2), .val (.int f3), .val (.int g1), .val (.int g2), .val (.int g3), .val (.int vx), .val (.int vy), .val (.int vz), .val (.ref uf), .val (.int r1), .val (.int vc), .unset, .unset, .unset, .unset, .unset, .unset] [(.ref uf)])) (fun t_ k_ => XS.aload X_J199.here hx rfl (hb hby at_225) rfl rfl k_) ?_
                    refine Go.st (T' := T_J199) (g' := (mkF m 229 #[.val (.int p1), .val (.int p2), .val (.int p3), .val (.int va), .val (.int vb), .val (.int vc), .val (.int vd), .val (.int f1), .val (.int f2), .val (.int f3), .val (.int g1), .val (.int g2), .val (.int g3), .val (.int vx), .val (.int vy), .val (.int vz), .val (.ref uf), .val (.int r1), .val (.int vc), .unset, .unset, .unset, .unset, .unset, .unset] [(.int vc), (.ref uf)])) (fun t_ k_ => XS.iload X_J199.here hx rfl (hb hby at_227) rfl k_) ?_
                    refine Go.st (T' := T_J199) (g' := (mkF m 231 #[.val (.int p1), .val (.int p2), .val (.int p3), .val (.int va), .val (.int vb), .val (.int vc), .val (.int vd), .val (.int f1), .val (.int f2), .val (.int f3), .val (.int g1), .val (.int g2), .val (.int g3), .val (.int vx), .val (.int vy), .val (.int vz), .val (.ref uf), .val (.int r1), .val (.int vc), .unset, .unset, .unset, .unset, .unset, .unset] [(.int vd), (.int vc), (.ref uf)])) (fun t_ k_ => XS.iload X_J199.here hx rfl (hb hby at_229) rfl k_) ?_
                    refine goVirtS X_J199 hx hZ (y := (⟨"com/example/cellsight/cellsight/analysis/UnionFind", "link", "(II)I"⟩ : MethodName)) hown (hw _ (List.mem_of_getElem? (i := 24) rfl)) (hw _ (List.mem_of_getElem? (i := 25) rfl)) (hw _ (List.mem_of_getElem? (i := 27) rfl)) (hw _ (List.mem_of_getElem? (i := 26) rfl)) (hw _ (List.mem_of_getElem? (i := 3) rfl)) (hw _ (List.mem_of_getElem? (i := 28) rfl)) (by decide) g0_J199 (rm5 l Z a0 hw [] n0 h_J199 uf vc vd pA kA n par rk (own_R va vb vc vd f1 0 r1 vc) sz_J199 g0_J199 g1_J199 g2_J199 g3_J199 g4_J199 g5_J199 g6_J199 g7_J199 g8_J199 g9_J199 g10_J199 (hS1) (hn1) (⟨h4.2.2.1.1, by have z := h4.2.2.1.2.2; omega⟩) (⟨h4.2.2.2.1, h4.2.2.2.2.2⟩) (by obtain ⟨z1, z2, z3, z4⟩ := h4; omega) ((own_e2 h4).1) ((own_e2 h4).2)) 0 (by decide) (by decide) (by rw [hml]; rfl) [(.int vc), (.int vd)] [] (lenOf pd_e58254ff rfl) rfl rfl rfl (hb hby at_231) (by decide) (by decide) fun v27 T27 h27 X27 hq27 => ?_
                    obtain ⟨q2, pA'_27, kA'_27, n'_27, par'_27, rk'_27, rfl, K27c, p27_0, p27_1, p27_2, p27_3, p27_4, p27_5, p27_6, p27_7, p27_8, p27_9, p27_10, hL2, hn2', hq2⟩ := hq27
                    have f27_4 : Exa Z h27 uf "com/example/cellsight/cellsight/analysis/UnionFind" := g0_J199.keep K27c
                    have f27_5 : Exa Z h27 pA "[I" := g3_J199.keep K27c
                    have f27_6 : Exa Z h27 kA "[I" := g4_J199.keep K27c
                    have sz27 : n0 ≤ h27.size := Nat.le_trans sz_J199 K27c.1
                    show Go p e below _ T27 (mkF m 234 #[.val (.int p1), .val (.int p2), .val (.int p3), .val (.int va), .val (.int vb), .val (.int vc), .val (.int vd), .val (.int f1), .val (.int f2), .val (.int f3), .val (.int g1), .val (.int g2), .val (.int g3), .val (.int vx), .val (.int vy), .val (.int vz), .val (.ref uf), .val (.int r1), .val (.int vc), .unset, .unset, .unset, .unset, .unset, .unset] [(.int q2)])
                    refine Go.st (T' := T27) (g' := (mkF m 236 #[.val (.int p1), .val (.int p2), .val (.int p3), .val (.int va), .val (.int vb), .val (.int vc), .val (.int vd), .val (.int f1), .val (.int f2), .val (.int f3), .val (.int g1), .val (.int g2), .val (.int g3), .val (.int vx), .val (.int vy), .val (.int vz), .val (.ref uf), .val (.int r1), .val (.int q2), .unset, .unset, .unset, .unset, .unset, .unset] [])) (fun t_ k_ => XS.istore X27.here hx rfl (hb hby at_234) rfl (l' := #[.val (.int p1), .val (.int p2), .val (.int p3), .val (.int va), .val (.int vb), .val (.int vc), .val (.int vd), .val (.int f1), .val (.int f2), .val (.int f3), .val (.int g1), .val (.int g2), .val (.int g3), .val (.int vx), .val (.int vy), .val (.int vz), .val (.ref uf), .val (.int r1), .val (.int q2), .unset, .unset, .unset, .unset, .unset, .unset]) rfl k_) ?_
                    exact J236 q2 pA'_27 kA'_27 n'_27 (fun i => (par'_27 i)) (fun i => (rk'_27 i)) T27 h27 (X27.mono (by decide) (by decide)) sz27 p27_0 p27_1 p27_2 p27_3 p27_4 p27_5 p27_6 p27_7 p27_8 p27_9 p27_10 (hL2.congr (own_c2 h4 hr1 hc205 (Or.inl ⟨rfl, rfl⟩))) (hn2') (by rcases hq2 with z | z; all_goals first | exact Or.inl z | exact Or.inr z) (fun z => absurd z hc205)
                  · skip
                    refine Go.st (T' := T_J199) (g' := (mkF m 213 #[.val (.int p1), .val (.int p2), .val (.int p3), .val (.int va), .val (.int vb), .val (.int vc), .val (.int vd), .val (.int f1), .val (.int f2), .val (.int f3), .val (.int g1), .val (.int g2), .val (.int g3), .val (.int vx), .val (.int vy), .val (.int vz), .val (.ref uf), .val (.int r1), .val (.int vc), .unset, .unset, .unset, .unset, .unset, .unset] [])) (fun t_ k_ => XS.ifNo X_J199.here hx rfl (hb hby at_210) rfl ((if0 _ _).trans (feq hc210).1) k_) ?_
                    refine Go.st (T' := T_J199) (g' := (mkF m 215 #[.val (.int p1), .val (.int p2), .val (.int p3), .val (.int va), .val (.int vb), .val (.int vc), .val (.int vd), .val (.int f1), .val (.int f2), .val (.int f3), .val (.int g1), .val (.int g2), .val (.int g3), .val (.int vx), .val (.int vy), .val (.int vz), .val (.ref uf), .val (.int r1), .val (.int vc), .unset, .unset, .unset, .unset, .unset, .unset] [(.ref uf)])) (fun t_ k_ => XS.aload X_J199.here hx rfl (hb hby at_213) rfl rfl k_) ?_
                    refine Go.st (T' := T_J199) (g' := (mkF m 217 #[.val (.int p1), .val (.int p2), .val (.int p3), .val (.int va), .val (.int vb), .val (.int vc), .val (.int vd), .val (.int f1), .val (.int f2), .val (.int f3), .val (.int g1), .val (.int g2), .val (.int g3), .val (.int vx), .val (.int vy), .val (.int vz), .val (.ref uf), .val (.int r1), .val (.int vc), .unset, .unset, .unset, .unset, .unset, .unset] [(.int vd), (.ref uf)])) (fun t_ k_ => XS.iload X_J199.here hx rfl (hb hby at_215) rfl k_) ?_
                    refine Go.st (T' := T_J199) (g' := (mkF m 219 #[.val (.int p1), .val (.int p2), .val (.int p3), .val (.int va), .val (.int vb), .val (.int vc), .val (.int vd), .val (.int f1), .val (.int f2), .val (.int f3), .val (.int g1), .val (.int g2), .val (.int g3), .val (.int vx), .val (.int vy), .val (.int vz), .val (.ref uf), .val (.int r1), .val (.int vc), .unset, .unset, .unset, .unset, .unset, .unset] [(.int vc), (.int vd), (.ref uf)])) (fun t_ k_ => XS.iload X_J199.here hx rfl (hb hby at_217) rfl k_) ?_
                    refine goVirtS X_J199 hx hZ (y := (⟨"com/example/cellsight/cellsight/analysis/UnionFind", "link", "(II)I"⟩ : MethodName)) hown (hw _ (List.mem_of_getElem? (i := 24) rfl)) (hw _ (List.mem_of_getElem? (i := 25) rfl)) (hw _ (List.mem_of_getElem? (i := 27) rfl)) (hw _ (List.mem_of_getElem? (i := 26) rfl)) (hw _ (List.mem_of_getElem? (i := 3) rfl)) (hw _ (List.mem_of_getElem? (i := 28) rfl)) (by decide) g0_J199 (rm5 l Z a0 hw [] n0 h_J199 uf vd vc pA kA n par rk (own_R va vb vc vd f1 0 r1 vc) sz_J199 g0_J199 g1_J199 g2_J199 g3_J199 g4_J199 g5_J199 g6_J199 g7_J199 g8_J199 g9_J199 g10_J199 (hS1) (hn1) (⟨h4.2.2.2.1, h4.2.2.2.2.2⟩) (⟨h4.2.2.1.1, by have z := h4.2.2.1.2.2; omega⟩) (by obtain ⟨z1, z2, z3, z4⟩ := h4; omega) ((own_e2 h4).2) ((own_e2 h4).1)) 0 (by decide) (by decide) (by rw [hml]; rfl) [(.int vd), (.int vc)] [] (lenOf pd_e58254ff rfl) rfl rfl rfl (hb hby at_219) (by decide) (by decide) fun v28 T28 h28 X28 hq28 => ?_
                    obtain ⟨q2, pA'_28, kA'_28, n'_28, par'_28, rk'_28, rfl, K28c, p28_0, p28_1, p28_2, p28_3, p28_4, p28_5, p28_6, p28_7, p28_8, p28_9, p28_10, hL2, hn2', hq2⟩ := hq28
                    have f28_4 : Exa Z h28 uf "com/example/cellsight/cellsight/analysis/UnionFind" := g0_J199.keep K28c
                    have f28_5 : Exa Z h28 pA "[I" := g3_J199.keep K28c
                    have f28_6 : Exa Z h28 kA "[I" := g4_J199.keep K28c
                    have sz28 : n0 ≤ h28.size := Nat.le_trans sz_J199 K28c.1
                    show Go p e below _ T28 (mkF m 222 #[.val (.int p1), .val (.int p2), .val (.int p3), .val (.int va), .val (.int vb), .val (.int vc), .val (.int vd), .val (.int f1), .val (.int f2), .val (.int f3), .val (.int g1), .val (.int g2), .val (.int g3), .val (.int vx), .val (.int vy), .val (.int vz), .val (.ref uf), .val (.int r1), .val (.int vc), .unset, .unset, .unset, .unset, .unset, .unset] [(.int q2)])
                    refine Go.st (T' := T28) (g' := (mkF m 234 #[.val (.int p1), .val (.int p2), .val (.int p3), .val (.int va), .val (.int vb), .val (.int vc), .val (.int vd), .val (.int f1), .val (.int f2), .val (.int f3), .val (.int g1), .val (.int g2), .val (.int g3), .val (.int vx), .val (.int vy), .val (.int vz), .val (.ref uf), .val (.int r1), .val (.int vc), .unset, .unset, .unset, .unset, .unset, .unset] [(.int q2)])) (fun t_ k_ => XS.goto X28.here hx rfl (pc0 := 222) (pc' := 234) rfl (hb hby at_222) (by decide) (by decide) k_) ?_
                    refine Go.st (T' := T28) (g' := (mkF m 236 #[.val (.int p1), .val (.int p2), .val (.int p3), .val (.int va), .val (.int vb), .val (.int vc), .val (.int vd), .val (.int f1), .val (.int f2), .val (.int f3), .val (.int g1), .val (.int g2), .val (.int g3), .val (.int vx), .val (.int vy), .val (.int vz), .val (.ref uf), .val (.int r1), .val (.int q2), .unset, .unset, .unset, .unset, .unset, .unset] [])) (fun t_ k_ => XS.istore X28.here hx rfl (hb hby at_234) rfl (l' := #[.val (.int p1), .val (.int p2), .val (.int p3), .val (.int va), .val (.int vb), .val (.int vc), .val (.int vd), .val (.int f1), .val (.int f2), .val (.int f3), .val (.int g1), .val (.int g2), .val (.int g3), .val (.int vx), .val (.int vy), .val (.int vz), .val (.ref uf), .val (.int r1), .val (.int q2), .unset, .unset, .unset, .unset, .unset, .unset]) rfl k_) ?_
                    exact J236 q2 pA'_28 kA'_28 n'_28 (fun i => (par'_28 i)) (fun i => (rk'_28 i)) T28 h28 (X28.mono (by decide) (by decide)) sz28 p28_0 p28_1 p28_2 p28_3 p28_4 p28_5 p28_6 p28_7 p28_8 p28_9 p28_10 (hL2.congr (own_c2 h4 hr1 hc205 (Or.inr ⟨rfl, rfl⟩))) (hn2') (by rcases hq2 with z | z; all_goals first | exact Or.inl z | exact Or.inr z) (fun z => absurd z hc205)
              by_cases hc170 : f1 = (0 : Int32)
              · skip
                refine Go.st (T' := T8) (g' := (mkF m 199 #[.val (.int p1), .val (.int p2), .val (.int p3), .val (.int va), .val (.int vb), .val (.int vc), .val (.int vd), .val (.int f1), .val (.int f2), .val (.int f3), .val (.int g1), .val (.int g2), .val (.int g3), .val (.int vx), .val (.int vy), .val (.int vz), .val (.ref uf), .val (.int va), .unset, .unset, .unset, .unset, .unset, .unset, .unset] [])) (fun t_ k_ => XS.ifYes X8.here hx rfl (pc0 := 170) (pc' := 199) rfl (hb hby at_170) rfl ((if0 _ _).trans (teq hc170).1) (by decide) (by decide) k_) ?_
                exact J199 va pA kA 0 (fun _ => 0) (fun _ => 0) T8 h8 (X8.mono (by decide) (by decide)) sz8 p8_0 p8_1 p8_2 p8_3 p8_4 p8_5 p8_6 ge7 p8_7 p8_8 p8_9 (own_S0.congr (own_i1 hc170)) (by omega) (Or.inl rfl) (fun _ => rfl)
              · skip
                refine Go.st (T' := T8) (g' := (mkF m 173 #[.val (.int p1), .val (.int p2), .val (.int p3), .val (.int va), .val (.int vb), .val (.int vc), .val (.int vd), .val (.int f1), .val (.int f2), .val (.int f3), .val (.int g1), .val (.int g2), .val (.int g3), .val (.int vx), .val (.int vy), .val (.int vz), .val (.ref uf), .val (.int va), .unset, .unset, .unset, .unset, .unset, .unset, .unset] [])) (fun t_ k_ => XS.ifNo X8.here hx rfl (hb hby at_170) rfl ((if0 _ _).trans (feq hc170).1) k_) ?_
                refine Go.st (T' := T8) (g' := (mkF m 175 #[.val (.int p1), .val (.int p2), .val (.int p3), .val (.int va), .val (.int vb), .val (.int vc), .val (.int vd), .val (.int f1), .val (.int f2), .val (.int f3), .val (.int g1), .val (.int g2), .val (.int g3), .val (.int vx), .val (.int vy), .val (.int vz), .val (.ref uf), .val (.int va), .unset, .unset, .unset, .unset, .unset, .unset, .unset] [(.int g1)])) (fun t_ k_ => XS.iload X8.here hx rfl (hb hby at_173) rfl k_) ?_
                by_cases hc175 : g1 = (0 : Int32)
                · skip
                  refine Go.st (T' := T8) (g' := (mkF m 189 #[.val (.int p1), .val (.int p2), .val (.int p3), .val (.int va), .val (.int vb), .val (.int vc), .val (.int vd), .val (.int f1), .val (.int f2), .val (.int f3), .val (.int g1), .val (.int g2), .val (.int g3), .val (.int vx), .val (.int vy), .val (.int vz), .val (.ref uf), .val (.int va), .unset, .unset, .unset, .unset, .unset, .unset, .unset] [])) (fun t_ k_ => XS.ifYes X8.here hx rfl (pc0 := 175) (pc' := 189) rfl (hb hby at_175) rfl ((if0 _ _).trans (teq hc175).1) (by decide) (by decide) k_) ?_
                  refine Go.st (T' := T8) (g' := (mkF m 191 #[.val (.int p1), .val (.int p2), .val (.int p3), .val (.int va), .val (.int vb), .val (.int vc), .val (.int vd), .val (.int f1), .val (.int f2), .val (.int f3), .val (.int g1), .val (.int g2), .val (.int g3), .val (.int vx), .val (.int vy), .val (.int vz), .val (.ref uf), .val (.int va), .unset, .unset, .unset, .unset, .unset, .unset, .unset] [(.ref uf)])) (fun t_ k_ => XS.aload X8.here hx rfl (hb hby at_189) rfl rfl k_) ?_
                  refine Go.st (T' := T8) (g' := (mkF m 192 #[.val (.int p1), .val (.int p2), .val (.int p3), .val (.int va), .val (.int vb), .val (.int vc), .val (.int vd), .val (.int f1), .val (.int f2), .val (.int f3), .val (.int g1), .val (.int g2), .val (.int g3), .val (.int vx), .val (.int vy), .val (.int vz), .val (.ref uf), .val (.int va), .unset, .unset, .unset, .unset, .unset, .unset, .unset] [(.int va), (.ref uf)])) (fun t_ k_ => XS.iloadN X8.here hx rfl (hb hby at_191) rfl k_) ?_
                  refine Go.st (T' := T8) (g' := (mkF m 194 #[.val (.int p1), .val (.int p2), .val (.int p3), .val (.int va), .val (.int vb), .val (.int vc), .val (.int vd), .val (.int f1), .val (.int f2), .val (.int f3), .val (.int g1), .val (.int g2), .val (.int g3), .val (.int vx), .val (.int vy), .val (.int vz), .val (.ref uf), .val (.int va), .unset, .unset, .unset, .unset, .unset, .unset, .unset] [(.int vb), (.int va), (.ref uf)])) (fun t_ k_ => XS.iload X8.here hx rfl (hb hby at_192) rfl k_) ?_
                  refine goVirtS X8 hx hZ (y := (⟨"com/example/cellsight/cellsight/analysis/UnionFind", "link", "(II)I"⟩ : MethodName)) hown (hw _ (List.mem_of_getElem? (i := 24) rfl)) (hw _ (List.mem_of_getElem? (i := 25) rfl)) (hw _ (List.mem_of_getElem? (i := 27) rfl)) (hw _ (List.mem_of_getElem? (i := 26) rfl)) (hw _ (List.mem_of_getElem? (i := 3) rfl)) (hw _ (List.mem_of_getElem? (i := 28) rfl)) (by decide) p8_0 (rm5 l Z a0 hw [] n0 h8 uf va vb pA kA 0 (fun _ => 0) (fun _ => 0) (fun v => v) sz8 p8_0 p8_1 p8_2 p8_3 p8_4 p8_5 p8_6 ge7 p8_7 p8_8 p8_9 (own_S0) (by omega) (⟨h4.1.1, by have z := h4.1.2; omega⟩) (⟨h4.2.1.1, by have z := h4.2.1.2.2; omega⟩) (by obtain ⟨z1, z2, z3, z4⟩ := h4; omega) (rfl) (rfl)) 0 (by decide) (by decide) (by rw [hml]; rfl) [(.int va), (.int vb)] [] (lenOf pd_e58254ff rfl) rfl rfl rfl (hb hby at_194) (by decide) (by decide) fun v29 T29 h29 X29 hq29 => ?_
                  obtain ⟨q1, pA'_29, kA'_29, n'_29, par'_29, rk'_29, rfl, K29c, p29_0, p29_1, p29_2, p29_3, p29_4, p29_5, p29_6, p29_7, p29_8, p29_9, p29_10, hL1, hn1', hq1⟩ := hq29
                  have f29_1 : Exa Z h29 uf "com/example/cellsight/cellsight/analysis/UnionFind" := p8_0.keep K29c
                  have f29_2 : Exa Z h29 pA "[I" := p8_3.keep K29c
                  have f29_3 : Exa Z h29 kA "[I" := p8_4.keep K29c
                  have sz29 : n0 ≤ h29.size := Nat.le_trans sz8 K29c.1
                  show Go p e below _ T29 (mkF m 197 #[.val (.int p1), .val (.int p2), .val (.int p3), .val (.int va), .val (.int vb), .val (.int vc), .val (.int vd), .val (.int f1), .val (.int f2), .val (.int f3), .val (.int g1), .val (.int g2), .val (.int g3), .val (.int vx), .val (.int vy), .val (.int vz), .val (.ref uf), .val (.int va), .unset, .unset, .unset, .unset, .unset, .unset, .unset] [(.int q1)])
                  refine Go.st (T' := T29) (g' := (mkF m 199 #[.val (.int p1), .val (.int p2), .val (.int p3), .val (.int va), .val (.int vb), .val (.int vc), .val (.int vd), .val (.int f1), .val (.int f2), .val (.int f3), .val (.int g1), .val (.int g2), .val (.int g3), .val (.int vx), .val (.int vy), .val (.int vz), .val (.ref uf), .val (.int q1), .unset, .unset, .unset, .unset, .unset, .unset, .unset] [])) (fun t_ k_ => XS.istore X29.here hx rfl (hb hby at_197) rfl (l' := #[.val (.int p1), .val (.int p2), .val (.int p3), .val (.int va), .val (.int vb), .val (.int vc), .val (.int vd), .val (.int f1), .val (.int f2), .val (.int f3), .val (.int g1), .val (.int g2), .val (.int g3), .val (.int vx), .val (.int vy), .val (.int vz), .val (.ref uf), .val (.int q1), .unset, .unset, .unset, .unset, .unset, .unset, .unset]) rfl k_) ?_
                  exact J199 q1 pA'_29 kA'_29 n'_29 (fun i => (par'_29 i)) (fun i => (rk'_29 i)) T29 h29 (X29.mono (by decide) (by decide)) sz29 p29_0 p29_1 p29_2 p29_3 p29_4 p29_5 p29_6 p29_7 p29_8 p29_9 p29_10 (hL1.congr (own_c1 h4 hc170 (Or.inl ⟨rfl, rfl⟩))) (hn1') (by rcases hq1 with z | z; all_goals first | exact Or.inl z | exact Or.inr z) (fun z => absurd z hc170)
                · skip
                  refine Go.st (T' := T8) (g' := (mkF m 178 #[.val (.int p1), .val (.int p2), .val (.int p3), .val (.int va), .val (.int vb), .val (.int vc), .val (.int vd), .val (.int f1), .val (.int f2), .val (.int f3), .val (.int g1), .val (.int g2), .val (.int g3), .val (.int vx), .val (.int vy), .val (.int vz), .val (.ref uf), .val (.int va), .unset, .unset, .unset, .unset, .unset, .unset, .unset] [])) (fun t_ k_ => XS.ifNo X8.here hx rfl (hb hby at_175) rfl ((if0 _ _).trans (feq hc175).1) k_) ?_
                  refine Go.st (T' := T8) (g' := (mkF m 180 #[.val (.int p1), .val (.int p2), .val (.int p3), .val (.int va), .val (.int vb), .val (.int vc), .val (.int vd), .val (.int f1), .val (.int f2), .val (.int f3), .val (.int g1), .val (.int g2), .val (.int g3), .val (.int vx), .val (.int vy), .val (.int vz), .val (.ref uf), .val (.int va), .unset, .unset, .unset, .unset, .unset, .unset, .unset] [(.ref uf)])) (fun t_ k_ => XS.aload X8.here hx rfl (hb hby at_178) rfl rfl k_) ?_
                  refine Go.st (T' := T8) (g' := (mkF m 182 #[.val (.int p1), .val (.int p2), .val (.int p3), .val (.int va), .val (.int vb), .val (.int vc), .val (.int vd), .val (.int f1), .val (.int f2), .val (.int f3), .val (.int g1), .val (.int g2), .val (.int g3), .val (.int vx), .val (.int vy), .val (.int vz), .val (.ref uf), .val (.int va), .unset, .unset, .unset, .unset, .unset, .unset, .unset] [(.int vb), (.ref uf)])) (fun t_ k_ => XS.iload X8.here hx rfl (hb hby at_180) rfl k_) ?_
                  refine Go.st (T' := T8) (g' := (mkF m 183 #[.val (.int p1), .val (.int p2), .val (.int p3), .val (.int va), .val (.int vb), .val (.int vc), .val (.int vd), .val (.int f1), .val (.int f2), .val (.int f3), .val (.int g1), .val (.int g2), .val (.int g3), .val (.int vx), .val (.int vy), .val (.int vz), .val (.ref uf), .val (.int va), .unset, .unset, .unset, .unset, .unset, .unset, .unset] [(.int va), (.int vb), (.ref uf)])) (fun t_ k_ => XS.iloadN X8.here hx rfl (hb hby at_182) rfl k_) ?_
                  refine goVirtS X8 hx hZ (y := (⟨"com/example/cellsight/cellsight/analysis/UnionFind", "link", "(II)I"⟩ : MethodName)) hown (hw _ (List.mem_of_getElem? (i := 24) rfl)) (hw _ (List.mem_of_getElem? (i := 25) rfl)) (hw _ (List.mem_of_getElem? (i := 27) rfl)) (hw _ (List.mem_of_getElem? (i := 26) rfl)) (hw _ (List.mem_of_getElem? (i := 3) rfl)) (hw _ (List.mem_of_getElem? (i := 28) rfl)) (by decide) p8_0 (rm5 l Z a0 hw [] n0 h8 uf vb va pA kA 0 (fun _ => 0) (fun _ => 0) (fun v => v) sz8 p8_0 p8_1 p8_2 p8_3 p8_4 p8_5 p8_6 ge7 p8_7 p8_8 p8_9 (own_S0) (by omega) (⟨h4.2.1.1, by have z := h4.2.1.2.2; omega⟩) (⟨h4.1.1, by have z := h4.1.2; omega⟩) (by obtain ⟨z1, z2, z3, z4⟩ := h4; omega) (rfl) (rfl)) 0 (by decide) (by decide) (by rw [hml]; rfl) [(.int vb), (.int va)] [] (lenOf pd_e58254ff rfl) rfl rfl rfl (hb hby at_183) (by decide) (by decide) fun v30 T30 h30 X30 hq30 => ?_
                  obtain ⟨q1, pA'_30, kA'_30, n'_30, par'_30, rk'_30, rfl, K30c, p30_0, p30_1, p30_2, p30_3, p30_4, p30_5, p30_6, p30_7, p30_8, p30_9, p30_10, hL1, hn1', hq1⟩ := hq30
                  have f30_1 : Exa Z h30 uf "com/example/cellsight/cellsight/analysis/UnionFind" := p8_0.keep K30c
                  have f30_2 : Exa Z h30 pA "[I" := p8_3.keep K30c
                  have f30_3 : Exa Z h30 kA "[I" := p8_4.keep K30c
                  have sz30 : n0 ≤ h30.size := Nat.le_trans sz8 K30c.1
                  show Go p e below _ T30 (mkF m 186 #[.val (.int p1), .val (.int p2), .val (.int p3), .val (.int va), .val (.int vb), .val (.int vc), .val (.int vd), .val (.int f1), .val (.int f2), .val (.int f3), .val (.int g1), .val (.int g2), .val (.int g3), .val (.int vx), .val (.int vy), .val (.int vz), .val (.ref uf), .val (.int va), .unset, .unset, .unset, .unset, .unset, .unset, .unset] [(.int q1)])
                  refine Go.st (T' := T30) (g' := (mkF m 197 #[.val (.int p1), .val (.int p2), .val (.int p3), .val (.int va), .val (.int vb), .val (.int vc), .val (.int vd), .val (.int f1), .val (.int f2), .val (.int f3), .val (.int g1), .val (.int g2), .val (.int g3), .val (.int vx), .val (.int vy), .val (.int vz), .val (.ref uf), .val (.int va), .unset, .unset, .unset, .unset, .unset, .unset, .unset] [(.int q1)])) (fun t_ k_ => XS.goto X30.here hx rfl (pc0 := 186) (pc' := 197) rfl (hb hby at_186) (by decide) (by decide) k_) ?_
                  refine Go.st (T' := T30) (g' := (mkF m 199 #[.val (.int p1), .val (.int p2), .val (.int p3), .val (.int va), .val (.int vb), .val (.int vc), .val (.int vd), .val (.int f1), .val (.int f2), .val (.int f3), .val (.int g1), .val (.int g2), .val (.int g3), .val (.int vx), .val (.int vy), .val (.int vz), .val (.ref uf), .val (.int q1), .unset, .unset, .unset, .unset, .unset, .unset, .unset] [])) (fun t_ k_ => XS.istore X30.here hx rfl (hb hby at_197) rfl (l' := #[.val (.int p1), .val (.int p2), .val (.int p3), .val (.int va), .val (.int vb), .val (.int vc), .val (.int vd), .val (.int f1), .val (.int f2), .val (.int f3), .val (.int g1), .val (.int g2), .val (.int g3), .val (.int vx), .val (.int vy), .val (.int vz), .val (.ref uf), .val (.int q1), .unset, .unset, .unset, .unset, .unset, .unset, .unset]) rfl k_) ?_
                  exact J199 q1 pA'_30 kA'_30 n'_30 (fun i => (par'_30 i)) (fun i => (rk'_30 i)) T30 h30 (X30.mono (by decide) (by decide)) sz30 p30_0 p30_1 p30_2 p30_3 p30_4 p30_5 p30_6 p30_7 p30_8 p30_9 p30_10 (hL1.congr (own_c1 h4 hc170 (Or.inr ⟨rfl, rfl⟩))) (hn1') (by rcases hq1 with z | z; all_goals first | exact Or.inl z | exact Or.inr z) (fun z => absurd z hc170)
            by_cases hc126 : (((p1.toUInt32 >>> ((17 : Int32) &&& 31).toUInt32).toInt32) &&& (1 : Int32)) = (0 : Int32)
            · skip
              refine Go.st (T' := s₁) (g' := (mkF m 133 #[.val (.int p1), .val (.int p2), .val (.int p3), .val (.int va), .val (.int vb), .val (.int vc), .val (.int vd), .val (.int f1), .val (.int f2), .val (.int f3), .val (.int g1), .val (.int g2), .unset, .unset, .unset, .unset, .unset, .unset, .unset, .unset, .unset, .unset, .unset, .unset, .unset] [])) (fun t_ k_ => XS.ifYes X0.here hx rfl (pc0 := 126) (pc' := 133) rfl (hb hby at_126) rfl ((if0 _ _).trans (teq hc126).1) (by decide) (by decide) k_) ?_
              refine Go.st (T' := s₁) (g' := (mkF m 134 #[.val (.int p1), .val (.int p2), .val (.int p3), .val (.int va), .val (.int vb), .val (.int vc), .val (.int vd), .val (.int f1), .val (.int f2), .val (.int f3), .val (.int g1), .val (.int g2), .unset, .unset, .unset, .unset, .unset, .unset, .unset, .unset, .unset, .unset, .unset, .unset, .unset] [(.int (0 : Int32))])) (fun t_ k_ => XS.iconst X0.here hx rfl (hb hby at_133) k_) ?_
              exact J134_6 (0 : Int32) (by rw [if_pos hc126])
            · skip
              refine Go.st (T' := s₁) (g' := (mkF m 129 #[.val (.int p1), .val (.int p2), .val (.int p3), .val (.int va), .val (.int vb), .val (.int vc), .val (.int vd), .val (.int f1), .val (.int f2), .val (.int f3), .val (.int g1), .val (.int g2), .unset, .unset, .unset, .unset, .unset, .unset, .unset, .unset, .unset, .unset, .unset, .unset, .unset] [])) (fun t_ k_ => XS.ifNo X0.here hx rfl (hb hby at_126) rfl ((if0 _ _).trans (feq hc126).1) k_) ?_
              refine Go.st (T' := s₁) (g' := (mkF m 130 #[.val (.int p1), .val (.int p2), .val (.int p3), .val (.int va), .val (.int vb), .val (.int vc), .val (.int vd), .val (.int f1), .val (.int f2), .val (.int f3), .val (.int g1), .val (.int g2), .unset, .unset, .unset, .unset, .unset, .unset, .unset, .unset, .unset, .unset, .unset, .unset, .unset] [(.int (1 : Int32))])) (fun t_ k_ => XS.iconst X0.here hx rfl (hb hby at_129) k_) ?_
              refine Go.st (T' := s₁) (g' := (mkF m 134 #[.val (.int p1), .val (.int p2), .val (.int p3), .val (.int va), .val (.int vb), .val (.int vc), .val (.int vd), .val (.int f1), .val (.int f2), .val (.int f3), .val (.int g1), .val (.int g2), .unset, .unset, .unset, .unset, .unset, .unset, .unset, .unset, .unset, .unset, .unset, .unset, .unset] [(.int (1 : Int32))])) (fun t_ k_ => XS.goto X0.here hx rfl (pc0 := 130) (pc' := 134) rfl (hb hby at_130) (by decide) (by decide) k_) ?_
              exact J134_6 (1 : Int32) (by rw [if_neg hc126])
          by_cases hc110 : (((p1.toUInt32 >>> ((16 : Int32) &&& 31).toUInt32).toInt32) &&& (1 : Int32)) = (0 : Int32)
          · skip
            refine Go.st (T' := s₁) (g' := (mkF m 117 #[.val (.int p1), .val (.int p2), .val (.int p3), .val (.int va), .val (.int vb), .val (.int vc), .val (.int vd), .val (.int f1), .val (.int f2), .val (.int f3), .val (.int g1), .unset, .unset, .unset, .unset, .unset, .unset, .unset, .unset, .unset, .unset, .unset, .unset, .unset, .unset] [])) (fun t_ k_ => XS.ifYes X0.here hx rfl (pc0 := 110) (pc' := 117) rfl (hb hby at_110) rfl ((if0 _ _).trans (teq hc110).1) (by decide) (by decide) k_) ?_
            refine Go.st (T' := s₁) (g' := (mkF m 118 #[.val (.int p1), .val (.int p2), .val (.int p3), .val (.int va), .val (.int vb), .val (.int vc), .val (.int vd), .val (.int f1), .val (.int f2), .val (.int f3), .val (.int g1), .unset, .unset, .unset, .unset, .unset, .unset, .unset, .unset, .unset, .unset, .unset, .unset, .unset, .unset] [(.int (0 : Int32))])) (fun t_ k_ => XS.iconst X0.here hx rfl (hb hby at_117) k_) ?_
            exact J118_5 (0 : Int32) (by rw [if_pos hc110])
          · skip
            refine Go.st (T' := s₁) (g' := (mkF m 113 #[.val (.int p1), .val (.int p2), .val (.int p3), .val (.int va), .val (.int vb), .val (.int vc), .val (.int vd), .val (.int f1), .val (.int f2), .val (.int f3), .val (.int g1), .unset, .unset, .unset, .unset, .unset, .unset, .unset, .unset, .unset, .unset, .unset, .unset, .unset, .unset] [])) (fun t_ k_ => XS.ifNo X0.here hx rfl (hb hby at_110) rfl ((if0 _ _).trans (feq hc110).1) k_) ?_
            refine Go.st (T' := s₁) (g' := (mkF m 114 #[.val (.int p1), .val (.int p2), .val (.int p3), .val (.int va), .val (.int vb), .val (.int vc), .val (.int vd), .val (.int f1), .val (.int f2), .val (.int f3), .val (.int g1), .unset, .unset, .unset, .unset, .unset, .unset, .unset, .unset, .unset, .unset, .unset, .unset, .unset, .unset] [(.int (1 : Int32))])) (fun t_ k_ => XS.iconst X0.here hx rfl (hb hby at_113) k_) ?_
            refine Go.st (T' := s₁) (g' := (mkF m 118 #[.val (.int p1), .val (.int p2), .val (.int p3), .val (.int va), .val (.int vb), .val (.int vc), .val (.int vd), .val (.int f1), .val (.int f2), .val (.int f3), .val (.int g1), .unset, .unset, .unset, .unset, .unset, .unset, .unset, .unset, .unset, .unset, .unset, .unset, .unset, .unset] [(.int (1 : Int32))])) (fun t_ k_ => XS.goto X0.here hx rfl (pc0 := 114) (pc' := 118) rfl (hb hby at_114) (by decide) (by decide) k_) ?_
            exact J118_5 (1 : Int32) (by rw [if_neg hc110])
        by_cases hc94 : (((p1.toUInt32 >>> ((15 : Int32) &&& 31).toUInt32).toInt32) &&& (1 : Int32)) = (0 : Int32)
        · skip
          refine Go.st (T' := s₁) (g' := (mkF m 101 #[.val (.int p1), .val (.int p2), .val (.int p3), .val (.int va), .val (.int vb), .val (.int vc), .val (.int vd), .val (.int f1), .val (.int f2), .val (.int f3), .unset, .unset, .unset, .unset, .unset, .unset, .unset, .unset, .unset, .unset, .unset, .unset, .unset, .unset, .unset] [])) (fun t_ k_ => XS.ifYes X0.here hx rfl (pc0 := 94) (pc' := 101) rfl (hb hby at_94) rfl ((if0 _ _).trans (teq hc94).1) (by decide) (by decide) k_) ?_
          refine Go.st (T' := s₁) (g' := (mkF m 102 #[.val (.int p1), .val (.int p2), .val (.int p3), .val (.int va), .val (.int vb), .val (.int vc), .val (.int vd), .val (.int f1), .val (.int f2), .val (.int f3), .unset, .unset, .unset, .unset, .unset, .unset, .unset, .unset, .unset, .unset, .unset, .unset, .unset, .unset, .unset] [(.int (0 : Int32))])) (fun t_ k_ => XS.iconst X0.here hx rfl (hb hby at_101) k_) ?_
          exact J102_4 (0 : Int32) (by rw [if_pos hc94])
        · skip
          refine Go.st (T' := s₁) (g' := (mkF m 97 #[.val (.int p1), .val (.int p2), .val (.int p3), .val (.int va), .val (.int vb), .val (.int vc), .val (.int vd), .val (.int f1), .val (.int f2), .val (.int f3), .unset, .unset, .unset, .unset, .unset, .unset, .unset, .unset, .unset, .unset, .unset, .unset, .unset, .unset, .unset] [])) (fun t_ k_ => XS.ifNo X0.here hx rfl (hb hby at_94) rfl ((if0 _ _).trans (feq hc94).1) k_) ?_
          refine Go.st (T' := s₁) (g' := (mkF m 98 #[.val (.int p1), .val (.int p2), .val (.int p3), .val (.int va), .val (.int vb), .val (.int vc), .val (.int vd), .val (.int f1), .val (.int f2), .val (.int f3), .unset, .unset, .unset, .unset, .unset, .unset, .unset, .unset, .unset, .unset, .unset, .unset, .unset, .unset, .unset] [(.int (1 : Int32))])) (fun t_ k_ => XS.iconst X0.here hx rfl (hb hby at_97) k_) ?_
          refine Go.st (T' := s₁) (g' := (mkF m 102 #[.val (.int p1), .val (.int p2), .val (.int p3), .val (.int va), .val (.int vb), .val (.int vc), .val (.int vd), .val (.int f1), .val (.int f2), .val (.int f3), .unset, .unset, .unset, .unset, .unset, .unset, .unset, .unset, .unset, .unset, .unset, .unset, .unset, .unset, .unset] [(.int (1 : Int32))])) (fun t_ k_ => XS.goto X0.here hx rfl (pc0 := 98) (pc' := 102) rfl (hb hby at_98) (by decide) (by decide) k_) ?_
          exact J102_4 (1 : Int32) (by rw [if_neg hc94])
      by_cases hc78 : (((p1.toUInt32 >>> ((14 : Int32) &&& 31).toUInt32).toInt32) &&& (1 : Int32)) = (0 : Int32)
      · skip
        refine Go.st (T' := s₁) (g' := (mkF m 85 #[.val (.int p1), .val (.int p2), .val (.int p3), .val (.int va), .val (.int vb), .val (.int vc), .val (.int vd), .val (.int f1), .val (.int f2), .unset, .unset, .unset, .unset, .unset, .unset, .unset, .unset, .unset, .unset, .unset, .unset, .unset, .unset, .unset, .unset] [])) (fun t_ k_ => XS.ifYes X0.here hx rfl (pc0 := 78) (pc' := 85) rfl (hb hby at_78) rfl ((if0 _ _).trans (teq hc78).1) (by decide) (by decide) k_) ?_
        refine Go.st (T' := s₁) (g' := (mkF m 86 #[.val (.int p1), .val (.int p2), .val (.int p3), .val (.int va), .val (.int vb), .val (.int vc), .val (.int vd), .val (.int f1), .val (.int f2), .unset, .unset, .unset, .unset, .unset, .unset, .unset, .unset, .unset, .unset, .unset, .unset, .unset, .unset, .unset, .unset] [(.int (0 : Int32))])) (fun t_ k_ => XS.iconst X0.here hx rfl (hb hby at_85) k_) ?_
        exact J86_3 (0 : Int32) (by rw [if_pos hc78])
      · skip
        refine Go.st (T' := s₁) (g' := (mkF m 81 #[.val (.int p1), .val (.int p2), .val (.int p3), .val (.int va), .val (.int vb), .val (.int vc), .val (.int vd), .val (.int f1), .val (.int f2), .unset, .unset, .unset, .unset, .unset, .unset, .unset, .unset, .unset, .unset, .unset, .unset, .unset, .unset, .unset, .unset] [])) (fun t_ k_ => XS.ifNo X0.here hx rfl (hb hby at_78) rfl ((if0 _ _).trans (feq hc78).1) k_) ?_
        refine Go.st (T' := s₁) (g' := (mkF m 82 #[.val (.int p1), .val (.int p2), .val (.int p3), .val (.int va), .val (.int vb), .val (.int vc), .val (.int vd), .val (.int f1), .val (.int f2), .unset, .unset, .unset, .unset, .unset, .unset, .unset, .unset, .unset, .unset, .unset, .unset, .unset, .unset, .unset, .unset] [(.int (1 : Int32))])) (fun t_ k_ => XS.iconst X0.here hx rfl (hb hby at_81) k_) ?_
        refine Go.st (T' := s₁) (g' := (mkF m 86 #[.val (.int p1), .val (.int p2), .val (.int p3), .val (.int va), .val (.int vb), .val (.int vc), .val (.int vd), .val (.int f1), .val (.int f2), .unset, .unset, .unset, .unset, .unset, .unset, .unset, .unset, .unset, .unset, .unset, .unset, .unset, .unset, .unset, .unset] [(.int (1 : Int32))])) (fun t_ k_ => XS.goto X0.here hx rfl (pc0 := 82) (pc' := 86) rfl (hb hby at_82) (by decide) (by decide) k_) ?_
        exact J86_3 (1 : Int32) (by rw [if_neg hc78])
    by_cases hc62 : (((p1.toUInt32 >>> ((13 : Int32) &&& 31).toUInt32).toInt32) &&& (1 : Int32)) = (0 : Int32)
    · skip
      refine Go.st (T' := s₁) (g' := (mkF m 69 #[.val (.int p1), .val (.int p2), .val (.int p3), .val (.int va), .val (.int vb), .val (.int vc), .val (.int vd), .val (.int f1), .unset, .unset, .unset, .unset, .unset, .unset, .unset, .unset, .unset, .unset, .unset, .unset, .unset, .unset, .unset, .unset, .unset] [])) (fun t_ k_ => XS.ifYes X0.here hx rfl (pc0 := 62) (pc' := 69) rfl (hb hby at_62) rfl ((if0 _ _).trans (teq hc62).1) (by decide) (by decide) k_) ?_
      refine Go.st (T' := s₁) (g' := (mkF m 70 #[.val (.int p1), .val (.int p2), .val (.int p3), .val (.int va), .val (.int vb), .val (.int vc), .val (.int vd), .val (.int f1), .unset, .unset, .unset, .unset, .unset, .unset, .unset, .unset, .unset, .unset, .unset, .unset, .unset, .unset, .unset, .unset, .unset] [(.int (0 : Int32))])) (fun t_ k_ => XS.iconst X0.here hx rfl (hb hby at_69) k_) ?_
      exact J70_2 (0 : Int32) (by rw [if_pos hc62])
    · skip
      refine Go.st (T' := s₁) (g' := (mkF m 65 #[.val (.int p1), .val (.int p2), .val (.int p3), .val (.int va), .val (.int vb), .val (.int vc), .val (.int vd), .val (.int f1), .unset, .unset, .unset, .unset, .unset, .unset, .unset, .unset, .unset, .unset, .unset, .unset, .unset, .unset, .unset, .unset, .unset] [])) (fun t_ k_ => XS.ifNo X0.here hx rfl (hb hby at_62) rfl ((if0 _ _).trans (feq hc62).1) k_) ?_
      refine Go.st (T' := s₁) (g' := (mkF m 66 #[.val (.int p1), .val (.int p2), .val (.int p3), .val (.int va), .val (.int vb), .val (.int vc), .val (.int vd), .val (.int f1), .unset, .unset, .unset, .unset, .unset, .unset, .unset, .unset, .unset, .unset, .unset, .unset, .unset, .unset, .unset, .unset, .unset] [(.int (1 : Int32))])) (fun t_ k_ => XS.iconst X0.here hx rfl (hb hby at_65) k_) ?_
      refine Go.st (T' := s₁) (g' := (mkF m 70 #[.val (.int p1), .val (.int p2), .val (.int p3), .val (.int va), .val (.int vb), .val (.int vc), .val (.int vd), .val (.int f1), .unset, .unset, .unset, .unset, .unset, .unset, .unset, .unset, .unset, .unset, .unset, .unset, .unset, .unset, .unset, .unset, .unset] [(.int (1 : Int32))])) (fun t_ k_ => XS.goto X0.here hx rfl (pc0 := 66) (pc' := 70) rfl (hb hby at_66) (by decide) (by decide) k_) ?_
      exact J70_2 (1 : Int32) (by rw [if_neg hc62])
  by_cases hc46 : (((p1.toUInt32 >>> ((12 : Int32) &&& 31).toUInt32).toInt32) &&& (1 : Int32)) = (0 : Int32)
  · skip
    refine Go.st (T' := s₁) (g' := (mkF m 53 #[.val (.int p1), .val (.int p2), .val (.int p3), .val (.int va), .val (.int vb), .val (.int vc), .val (.int vd), .unset, .unset, .unset, .unset, .unset, .unset, .unset, .unset, .unset, .unset, .unset, .unset, .unset, .unset, .unset, .unset, .unset, .unset] [])) (fun t_ k_ => XS.ifYes X0.here hx rfl (pc0 := 46) (pc' := 53) rfl (hb hby at_46) rfl ((if0 _ _).trans (teq hc46).1) (by decide) (by decide) k_) ?_
    refine Go.st (T' := s₁) (g' := (mkF m 54 #[.val (.int p1), .val (.int p2), .val (.int p3), .val (.int va), .val (.int vb), .val (.int vc), .val (.int vd), .unset, .unset, .unset, .unset, .unset, .unset, .unset, .unset, .unset, .unset, .unset, .unset, .unset, .unset, .unset, .unset, .unset, .unset] [(.int (0 : Int32))])) (fun t_ k_ => XS.iconst X0.here hx rfl (hb hby at_53) k_) ?_
    exact J54_1 (0 : Int32) (by rw [if_pos hc46])
  · skip
    refine Go.st (T' := s₁) (g' := (mkF m 49 #[.val (.int p1), .val (.int p2), .val (.int p3), .val (.int va), .val (.int vb), .val (.int vc), .val (.int vd), .unset, .unset, .unset, .unset, .unset, .unset, .unset, .unset, .unset, .unset, .unset, .unset, .unset, .unset, .unset, .unset, .unset, .unset] [])) (fun t_ k_ => XS.ifNo X0.here hx rfl (hb hby at_46) rfl ((if0 _ _).trans (feq hc46).1) k_) ?_
    refine Go.st (T' := s₁) (g' := (mkF m 50 #[.val (.int p1), .val (.int p2), .val (.int p3), .val (.int va), .val (.int vb), .val (.int vc), .val (.int vd), .unset, .unset, .unset, .unset, .unset, .unset, .unset, .unset, .unset, .unset, .unset, .unset, .unset, .unset, .unset, .unset, .unset, .unset] [(.int (1 : Int32))])) (fun t_ k_ => XS.iconst X0.here hx rfl (hb hby at_49) k_) ?_
    refine Go.st (T' := s₁) (g' := (mkF m 54 #[.val (.int p1), .val (.int p2), .val (.int p3), .val (.int va), .val (.int vb), .val (.int vc), .val (.int vd), .unset, .unset, .unset, .unset, .unset, .unset, .unset, .unset, .unset, .unset, .unset, .unset, .unset, .unset, .unset, .unset, .unset, .unset] [(.int (1 : Int32))])) (fun t_ k_ => XS.goto X0.here hx rfl (pc0 := 50) (pc' := 54) rfl (hb hby at_50) (by decide) (by decide) k_) ?_
    exact J54_1 (1 : Int32) (by rw [if_neg hc46])
set_option maxRecDepth 65536 in
set_option maxHeartbeats 40000000 in
theorem comes_1 {Post : Tables → Env → Array Value → State → Outcome → State → Prop} (hpost : ∀ tb e args s v u, (limb_1_1.after args s (.returned v) u = true ∧ limb_1_2.after args s (.returned v) u = true ∧ True) → FrameEnd s (.returned v) u (Jvm.fieldLocs frame_1_writes args s ++ Jvm.arrayLocs frame_1_arrays args s ++ Jvm.staticLocs frame_1_statics s) 24 320 → Post tb e args s (.returned v) u) :
    ArmFor flags0 classFile x code maxLocals ret World_1 tables_1 room_1 Calls_1 rest_1 Pre_1 Post := by
  intro l hfl _ _ p e ha hc hk s m args below hf hA hF happ hP
  obtain ⟨hcalls, hrest, hpre⟩ := hP
  obtain ⟨-, -, -, hnamed, -, -, -, hat⟩ := (Spec.applies_iff hf).mp happ
  obtain ⟨hg, hn⟩ := and_e (Cond.before_iff.mp (show (Jvm.Cond.and given_1 narrow_1).before args s = true from hpre))
  obtain ⟨hcnt, hg⟩ := and_e hg
  obtain ⟨ha0, hg⟩ := and_e hg
  obtain ⟨ha1, hg⟩ := and_e hg
  have ha2 := hg
  obtain ⟨w0, w1, w2, rfl⟩ : ∃ w0 w1 w2 : Value, args = #[w0, w1, w2] := by
    have hs : args.size = 3 := by simpa [Cond.value, given_1] using hcnt
    obtain ⟨L⟩ := args
    match L, hs with
    | [w0, w1, w2], _ => exact ⟨w0, w1, w2, rfl⟩
  have hw := fun d (hd : d ∈ tables_1) => atoms_spec (ws := Jvm.Cond.code x code maxLocals ret :: tables_1) hat d (List.mem_cons_of_mem _ hd)
  have hfit : Fit s := fun {y c} hc i hi => by
    obtain ⟨ha, rfl⟩ := Array.getElem?_eq_some_iff.mp hc
    have q := List.all_eq_true.mp ((Array.all_eq_true_iff_forall_mem.mp hF) _ (Array.getElem_mem ha)) i (List.mem_range.mpr hi)
    simpa [Array.getElem?_eq_getElem hi] using q
  obtain ⟨i0, ei0⟩ := is_v ha0
  obtain rfl : w0 = (.int i0) := Option.some.inj ei0
  obtain ⟨i1, ei1⟩ := is_v ha1
  obtain rfl : w1 = (.int i1) := Option.some.inj ei1
  obtain ⟨i2, ei2⟩ := is_v ha2
  obtain rfl : w2 = (.int i2) := Option.some.inj ei2
  obtain ⟨n, o, h1, h2, h3, v, L, rfl, ⟨N, hv⟩, hq⟩ := rm0 l s _ hw tables_1 s.heap.size s.heap i0 i1 i2 (Nat.le_refl _) p e ha hc hk s m _ below hf ((Spec.applies_iff_loose hf).mp happ).1 ⟨rfl, State.Warmed39.refl s, rfl⟩ trivial
  obtain rfl : v = some (.int 1) := hv
  refine ⟨n, _, h1, h2, h3, hpost _ _ _ _ _ _ ⟨Cond.after_iff.mpr rfl, Cond.after_iff.mpr (eq_i res_at (Term.int_eval (1)) rfl), trivial⟩ ⟨hq.1, hq.2.1, (hq.2.2.sift fun y hy => Or.inr (N y hy)).mono (by decide) (by decide)⟩⟩
theorem main_1_1 : Claimed_1_1 := comes_1 fun _ _ _ _ _ _ h hF => ⟨h.1, hF⟩
theorem main_1_2 : Claimed_1_2 := comes_1 fun _ _ _ _ _ _ h hF => ⟨h.2.1, hF⟩
end Jvm.Pilot.@@N@@
namespace Jvm.Pilot.@@N@@
open Jvm Jvm.ClassFile Sem Op Lib Jvm.Free Jvm.Stand Jvm.Pilot.@@N@@.Jvm.D
/-! MADE BY PROGRAM (witnessworld.py) out of the Statement's table words and the real class files: 12 classes; the members and pool entries that the words name. The judged class is class 1, her method 1. -/
namespace start1
open Jvm.ClassFile
def u (s : String) : CpInfo := .utf8 (stringToUtf16 s)
/-- a pool by its gaps: so many unusable entries, then the entry; so many at the end -/
def gap : Nat → List CpInfo → List CpInfo
  | 0, r => r
  | n + 1, r => .unusable :: gap n r
def poolList (es : List (Nat × CpInfo)) (last : Nat) : List CpInfo := es.foldr (fun e r => gap e.1 (e.2 :: r)) (gap last [])
def pool (es : List (Nat × CpInfo)) (last : Nat) : Array CpInfo := ⟨poolList es last⟩
def fileOf (pool : Array CpInfo) (this : Nat) (attrs : Array Attribute := #[]) (ms : Array MethodInfo := #[]) (fl : Nat := 33) (sup : Nat := 0) (ifs : Array Nat := #[]) (fds : Array FieldInfo := #[]) : ClassFile where
  minorVersion := 0
  majorVersion := 65
  constantPool := pool
  accessFlags := fl
  thisClass := this
  superClass := sup
  interfaces := ifs
  fields := fds
  methods := ms
  attributes := attrs
def plain (name : String) (sup : Option ClassId) : Class where
  name := name
  kind := .ordinary
  loader := none
  accessFlags := 33
  super := sup
  interfaces := #[]
  cf := none
  fields := #[]
  methods := #[]
  instanceTypes := #[]
  staticTypes := #[]
  resolved := #[]
  callSites := []
  init := .initialized
  statics := none
  mirror := none

def pool0 : Array CpInfo := pool [(5, u "<init>"), (0, u "()V"), (1, .class_ 10), (1, u "java/lang/Object")] 113

def k0c0 : Code := { maxStack := 0, maxLocals := 1, code := object_method_1_code, exceptionTable := #[], attributes := #[] }
def k0m0 : Method := { name := "<init>", desc := "()V", sig := { parameters := [], returnType := none }, accessFlags := 1, code := some k0c0 }
/-- java/lang/Object -/
def k0 : Class := { plain "java/lang/Object" none with
  accessFlags := 33
  interfaces := #[]
  cf := some (fileOf pool0 8 #[] #[{ accessFlags := 1, nameIndex := 5, descriptorIndex := 6, attributes := #[] }] 33 0 #[] #[])
  fields := #[]
  methods := #[k0m0]
  instanceTypes := #[]
  staticTypes := #[]
  resolved := Array.replicate 124 none
  statics := none }

def pool1 : Array CpInfo := pool [(2, .class_ 4), (0, .nameAndType 5 6), (0, u "java/lang/Object"), (0, u "<init>"), (0, u "()V"), (0, .integer 2147483647), (0, .class_ 9), (0, u "com/example/cellsight/cellsight/analysis/UnionFind"), (0, .methodref 8 3), (0, .methodref 8 12), (0, .nameAndType 13 14), (0, u "link"), (0, u "(II)I"), (0, .methodref 8 16), (0, .nameAndType 17 18), (0, u "find"), (0, u "(I)I"), (0, .methodref 20 21), (0, .class_ 22), (0, .nameAndType 23 24), (0, u "com/example/cellsight/cellsight/analysis/UnionFindFindPinLaw"), (0, u "expected"), (0, u "(IIIIIZZII)I"), (2, u "law"), (0, u "(III)Z")] 3

def k1m0 : Method := { name := "<init>", desc := "()V", sig := { parameters := [], returnType := none }, accessFlags := 1, code := none }
def k1c1 : Code := { maxStack := 10, maxLocals := 25, code := code, exceptionTable := #[], attributes := #[] }
def k1m1 : Method := { name := "law", desc := "(III)Z", sig := { parameters := [.int, .int, .int], returnType := some .boolean }, accessFlags := 9, code := some k1c1 }
def k1c2 : Code := { maxStack := 2, maxLocals := 9, code := method_3_code, exceptionTable := #[], attributes := #[] }
def k1m2 : Method := { name := "expected", desc := "(IIIIIZZII)I", sig := { parameters := [.int, .int, .int, .int, .int, .boolean, .boolean, .int, .int], returnType := some .int }, accessFlags := 10, code := some k1c2 }
/-- com/example/cellsight/cellsight/analysis/UnionFindFindPinLaw -/
def k1 : Class := { plain "com/example/cellsight/cellsight/analysis/UnionFindFindPinLaw" (some 0) with
  accessFlags := 49
  interfaces := #[]
  cf := some (fileOf pool1 20 #[] #[{ accessFlags := 1, nameIndex := 5, descriptorIndex := 6, attributes := #[] }, { accessFlags := 9, nameIndex := 27, descriptorIndex := 28, attributes := #[] }, { accessFlags := 10, nameIndex := 23, descriptorIndex := 24, attributes := #[] }] 49 2 #[] #[])
  fields := #[]
  methods := #[k1m0, k1m1, k1m2]
  instanceTypes := #[]
  staticTypes := #[]
  resolved := Array.replicate 32 none
  statics := none }

def pool2 : Array CpInfo := pool [(1, .methodref 2 3), (0, .class_ 4), (0, .nameAndType 5 6), (0, u "java/lang/Object"), (0, u "<init>"), (0, u "()V"), (0, .fieldref 8 9), (0, .class_ 10), (0, .nameAndType 11 12), (0, u "com/example/cellsight/cellsight/analysis/UnionFind"), (0, u "parent"), (0, u "[I"), (0, .fieldref 8 14), (0, .nameAndType 15 12), (0, u "rank"), (0, .methodref 17 18), (0, .class_ 19), (0, .nameAndType 20 21), (0, u "java/lang/Math"), (0, u "max"), (0, u "(II)I"), (0, .methodref 8 23), (0, .nameAndType 24 25), (0, u "grow"), (0, u "(I)V"), (0, .methodref 27 28), (0, .class_ 29), (0, .nameAndType 30 31), (0, u "java/util/Arrays"), (0, u "copyOf"), (0, u "([II)[I"), (2, u "find"), (0, u "(I)I"), (1, u "link")] 2

def k2c0 : Code := { maxStack := 2, maxLocals := 1, code := prog_21_method_1_code, exceptionTable := #[], attributes := #[] }
def k2m0 : Method := { name := "<init>", desc := "()V", sig := { parameters := [], returnType := none }, accessFlags := 0, code := some k2c0 }
def k2c1 : Code := { maxStack := 3, maxLocals := 5, code := prog_21_method_2_code, exceptionTable := #[], attributes := #[] }
def k2m1 : Method := { name := "find", desc := "(I)I", sig := { parameters := [.int], returnType := some .int }, accessFlags := 0, code := some k2c1 }
def k2c2 : Code := { maxStack := 4, maxLocals := 3, code := prog_21_method_3_code, exceptionTable := #[], attributes := #[] }
def k2m2 : Method := { name := "link", desc := "(II)I", sig := { parameters := [.int, .int], returnType := some .int }, accessFlags := 0, code := some k2c2 }
def k2c3 : Code := { maxStack := 4, maxLocals := 5, code := prog_21_method_4_code, exceptionTable := #[], attributes := #[] }
def k2m3 : Method := { name := "grow", desc := "(I)V", sig := { parameters := [.int], returnType := none }, accessFlags := 2, code := some k2c3 }
/-- com/example/cellsight/cellsight/analysis/UnionFind -/
def k2 : Class := { plain "com/example/cellsight/cellsight/analysis/UnionFind" (some 0) with
  accessFlags := 32
  interfaces := #[]
  cf := some (fileOf pool2 8 #[] #[{ accessFlags := 0, nameIndex := 5, descriptorIndex := 6, attributes := #[] }, { accessFlags := 0, nameIndex := 34, descriptorIndex := 35, attributes := #[] }, { accessFlags := 0, nameIndex := 37, descriptorIndex := 21, attributes := #[] }, { accessFlags := 2, nameIndex := 24, descriptorIndex := 25, attributes := #[] }] 32 2 #[] #[{ accessFlags := 2, nameIndex := 11, descriptorIndex := 12, attributes := #[] }, { accessFlags := 2, nameIndex := 15, descriptorIndex := 12, attributes := #[] }])
  fields := #[{ name := "parent", type := (.array .int), accessFlags := 2, slot := 0, constantValue := 0 }, { name := "rank", type := (.array .int), accessFlags := 2, slot := 1, constantValue := 0 }]
  methods := #[k2m0, k2m1, k2m2, k2m3]
  instanceTypes := #[(.array .int), (.array .int)]
  staticTypes := #[]
  resolved := Array.replicate 40 none
  statics := none }

def pool3 : Array CpInfo := pool [(1, .class_ 2), (0, u "java/lang/Math"), (1, .class_ 6), (1, u "java/lang/Object"), (0, u "<init>"), (0, u "()V"), (89, .class_ 100), (1, u "java/lang/Math$RandomNumberGeneratorHolder"), (71, u "negativeZeroFloatBits"), (0, u "J"), (2, u "negativeZeroDoubleBits"), (21, u "max"), (2, u "min"), (43, u "$assertionsDisabled"), (0, u "Z"), (88, u "(II)I"), (2, u "twoToTheDoubleScaleDown"), (0, u "D"), (4, u "twoToTheDoubleScaleUp"), (9, u "E"), (3, u "PI"), (2, u "TAU"), (2, u "DEGREES_TO_RADIANS"), (0, u "RADIANS_TO_DEGREES")] 94

def k3m0 : Method := { name := "<init>", desc := "()V", sig := { parameters := [], returnType := none }, accessFlags := 2, code := none }
def k3c1 : Code := { maxStack := 2, maxLocals := 2, code := jdk_29_method_65_code, exceptionTable := #[], attributes := #[] }
def k3m1 : Method := { name := "max", desc := "(II)I", sig := { parameters := [.int, .int], returnType := some .int }, accessFlags := 9, code := some k3c1 }
def k3c2 : Code := { maxStack := 2, maxLocals := 2, code := jdk_29_method_69_code, exceptionTable := #[], attributes := #[] }
def k3m2 : Method := { name := "min", desc := "(II)I", sig := { parameters := [.int, .int], returnType := some .int }, accessFlags := 9, code := some k3c2 }
/-- java/lang/Math -/
def k3 : Class := { plain "java/lang/Math" (some 0) with
  accessFlags := 49
  interfaces := #[]
  cf := some (fileOf pool3 1 #[.nestMembers #[98]] #[{ accessFlags := 2, nameIndex := 7, descriptorIndex := 8, attributes := #[] }, { accessFlags := 9, nameIndex := 198, descriptorIndex := 335, attributes := #[] }, { accessFlags := 9, nameIndex := 201, descriptorIndex := 335, attributes := #[] }] 49 4 #[] #[{ accessFlags := 25, nameIndex := 354, descriptorIndex := 339, attributes := #[] }, { accessFlags := 25, nameIndex := 358, descriptorIndex := 339, attributes := #[] }, { accessFlags := 25, nameIndex := 361, descriptorIndex := 339, attributes := #[] }, { accessFlags := 26, nameIndex := 364, descriptorIndex := 339, attributes := #[] }, { accessFlags := 26, nameIndex := 365, descriptorIndex := 339, attributes := #[] }, { accessFlags := 26, nameIndex := 172, descriptorIndex := 173, attributes := #[] }, { accessFlags := 26, nameIndex := 176, descriptorIndex := 173, attributes := #[] }, { accessFlags := 8, nameIndex := 344, descriptorIndex := 339, attributes := #[] }, { accessFlags := 8, nameIndex := 338, descriptorIndex := 339, attributes := #[] }, { accessFlags := 4120, nameIndex := 245, descriptorIndex := 246, attributes := #[] }])
  fields := #[{ name := "E", type := .double, accessFlags := 25, slot := 0, constantValue := 0 }, { name := "PI", type := .double, accessFlags := 25, slot := 1, constantValue := 0 }, { name := "TAU", type := .double, accessFlags := 25, slot := 2, constantValue := 0 }, { name := "DEGREES_TO_RADIANS", type := .double, accessFlags := 26, slot := 3, constantValue := 0 }, { name := "RADIANS_TO_DEGREES", type := .double, accessFlags := 26, slot := 4, constantValue := 0 }, { name := "negativeZeroFloatBits", type := .long, accessFlags := 26, slot := 5, constantValue := 0 }, { name := "negativeZeroDoubleBits", type := .long, accessFlags := 26, slot := 6, constantValue := 0 }, { name := "twoToTheDoubleScaleUp", type := .double, accessFlags := 8, slot := 7, constantValue := 0 }, { name := "twoToTheDoubleScaleDown", type := .double, accessFlags := 8, slot := 8, constantValue := 0 }, { name := "$assertionsDisabled", type := .boolean, accessFlags := 4120, slot := 9, constantValue := 0 }]
  methods := #[k3m0, k3m1, k3m2]
  instanceTypes := #[]
  staticTypes := #[.double, .double, .double, .double, .double, .long, .long, .double, .double, .boolean]
  resolved := Array.replicate 460 none
  statics := none }

def pool4 : Array CpInfo := pool [(2, .class_ 4), (1, u "java/lang/Object"), (0, u "<init>"), (0, u "()V"), (7, .class_ 16), (1, u "java/util/Arrays"), (57, .class_ 76), (1, u "java/util/Arrays$NaturalOrder"), (36, .class_ 115), (1, u "java/util/Arrays$LegacyMergeSort"), (1, u "Z"), (32, .methodref 151 152), (0, .class_ 153), (0, .nameAndType 154 155), (0, u "java/lang/System"), (0, u "arraycopy"), (0, u "(Ljava/lang/Object;ILjava/lang/Object;II)V"), (146, u "copyOf"), (1, .methodref 305 306), (0, .class_ 307), (0, .nameAndType 308 309), (0, u "java/lang/Math"), (0, u "min"), (0, u "(II)I"), (65, .class_ 376), (0, u "java/util/Arrays$ArrayList"), (68, u "$assertionsDisabled"), (269, u "MIN_ARRAY_SORT_GRAN"), (0, u "I"), (2, u "INSERTIONSORT_THRESHOLD"), (151, u "([II)[I"), (103, .class_ 976), (0, u "java/util/Arrays$ArrayItr")] 52

def k4m0 : Method := { name := "<init>", desc := "()V", sig := { parameters := [], returnType := none }, accessFlags := 2, code := none }
def k4c1 : Code := { maxStack := 6, maxLocals := 3, code := jdk_65_method_123_code, exceptionTable := #[], attributes := #[] }
def k4m1 : Method := { name := "copyOf", desc := "([II)[I", sig := { parameters := [(.array .int), .int], returnType := some (.array .int) }, accessFlags := 9, code := some k4c1 }
/-- java/util/Arrays -/
def k4 : Class := { plain "java/util/Arrays" (some 0) with
  accessFlags := 49
  interfaces := #[]
  cf := some (fileOf pool4 14 #[.nestMembers #[975, 375, 113, 74]] #[{ accessFlags := 2, nameIndex := 5, descriptorIndex := 6, attributes := #[] }, { accessFlags := 9, nameIndex := 302, descriptorIndex := 871, attributes := #[] }] 49 2 #[] #[{ accessFlags := 26, nameIndex := 715, descriptorIndex := 716, attributes := #[] }, { accessFlags := 26, nameIndex := 719, descriptorIndex := 716, attributes := #[] }, { accessFlags := 4120, nameIndex := 445, descriptorIndex := 117, attributes := #[] }])
  fields := #[{ name := "MIN_ARRAY_SORT_GRAN", type := .int, accessFlags := 26, slot := 0, constantValue := 0 }, { name := "INSERTIONSORT_THRESHOLD", type := .int, accessFlags := 26, slot := 1, constantValue := 0 }, { name := "$assertionsDisabled", type := .boolean, accessFlags := 4120, slot := 2, constantValue := 0 }]
  methods := #[k4m0, k4m1]
  instanceTypes := #[]
  staticTypes := #[.int, .int, .boolean]
  resolved := Array.replicate 1029 none
  statics := none }

def pool5 : Array CpInfo := pool [(2, .class_ 4), (1, u "java/lang/Object"), (0, u "<init>"), (0, u "()V"), (1, .class_ 10), (1, u "java/lang/System"), (0, u "allowSecurityManager"), (0, u "I"), (16, u "cons"), (0, u "Ljava/io/Console;"), (77, .class_ 110), (1, u "java/lang/System$CallersHolder"), (43, u "initialErrStream"), (0, u "Ljava/io/PrintStream;"), (19, u "security"), (0, u "Ljava/lang/SecurityManager;"), (31, .class_ 209), (0, u "java/lang/System$1"), (7, u "props"), (0, u "Ljava/util/Properties;"), (2, u "lineSeparator"), (0, u "Ljava/lang/String;"), (96, .class_ 321), (1, u "java/lang/System$LoggerFinder"), (5, .class_ 328), (0, u "java/lang/System$Logger"), (67, u "err"), (2, u "out"), (91, u "notSupportedJnuEncoding"), (15, u "in"), (17, u "initialIn"), (0, u "Ljava/io/InputStream;"), (35, u "bootLayer"), (0, u "Ljava/lang/ModuleLayer;"), (99, .class_ 664), (0, u "java/lang/System$2"), (9, u "NEVER"), (2, u "MAYBE"), (49, u "arraycopy"), (0, u "(Ljava/lang/Object;ILjava/lang/Object;II)V"), (72, .class_ 802), (0, u "java/lang/System$Logger$Level")] 31

def k5m0 : Method := { name := "<init>", desc := "()V", sig := { parameters := [], returnType := none }, accessFlags := 2, code := none }
def k5m1 : Method := { name := "arraycopy", desc := "(Ljava/lang/Object;ILjava/lang/Object;II)V", sig := { parameters := [(.object "java/lang/Object"), .int, (.object "java/lang/Object"), .int, .int], returnType := none }, accessFlags := 265, code := none }
/-- java/lang/System -/
def k5 : Class := { plain "java/lang/System" (some 0) with
  accessFlags := 49
  interfaces := #[]
  cf := some (fileOf pool5 8 #[.nestMembers #[319, 327, 801, 108, 663, 208]] #[{ accessFlags := 2, nameIndex := 5, descriptorIndex := 6, attributes := #[] }, { accessFlags := 265, nameIndex := 727, descriptorIndex := 728, attributes := #[] }] 49 2 #[] #[{ accessFlags := 25, nameIndex := 507, descriptorIndex := 526, attributes := #[] }, { accessFlags := 25, nameIndex := 399, descriptorIndex := 155, attributes := #[] }, { accessFlags := 25, nameIndex := 396, descriptorIndex := 155, attributes := #[] }, { accessFlags := 10, nameIndex := 525, descriptorIndex := 526, attributes := #[] }, { accessFlags := 26, nameIndex := 674, descriptorIndex := 12, attributes := #[] }, { accessFlags := 26, nameIndex := 677, descriptorIndex := 12, attributes := #[] }, { accessFlags := 10, nameIndex := 11, descriptorIndex := 12, attributes := #[] }, { accessFlags := 74, nameIndex := 175, descriptorIndex := 176, attributes := #[] }, { accessFlags := 10, nameIndex := 491, descriptorIndex := 222, attributes := #[] }, { accessFlags := 74, nameIndex := 29, descriptorIndex := 30, attributes := #[] }, { accessFlags := 74, nameIndex := 154, descriptorIndex := 155, attributes := #[] }, { accessFlags := 10, nameIndex := 217, descriptorIndex := 218, attributes := #[] }, { accessFlags := 10, nameIndex := 221, descriptorIndex := 222, attributes := #[] }, { accessFlags := 8, nameIndex := 562, descriptorIndex := 563, attributes := #[] }])
  fields := #[{ name := "in", type := (.object "java/io/InputStream"), accessFlags := 25, slot := 0, constantValue := 0 }, { name := "out", type := (.object "java/io/PrintStream"), accessFlags := 25, slot := 1, constantValue := 0 }, { name := "err", type := (.object "java/io/PrintStream"), accessFlags := 25, slot := 2, constantValue := 0 }, { name := "initialIn", type := (.object "java/io/InputStream"), accessFlags := 10, slot := 3, constantValue := 0 }, { name := "NEVER", type := .int, accessFlags := 26, slot := 4, constantValue := 0 }, { name := "MAYBE", type := .int, accessFlags := 26, slot := 5, constantValue := 0 }, { name := "allowSecurityManager", type := .int, accessFlags := 10, slot := 6, constantValue := 0 }, { name := "security", type := (.object "java/lang/SecurityManager"), accessFlags := 74, slot := 7, constantValue := 0 }, { name := "notSupportedJnuEncoding", type := (.object "java/lang/String"), accessFlags := 10, slot := 8, constantValue := 0 }, { name := "cons", type := (.object "java/io/Console"), accessFlags := 74, slot := 9, constantValue := 0 }, { name := "initialErrStream", type := (.object "java/io/PrintStream"), accessFlags := 74, slot := 10, constantValue := 0 }, { name := "props", type := (.object "java/util/Properties"), accessFlags := 10, slot := 11, constantValue := 0 }, { name := "lineSeparator", type := (.object "java/lang/String"), accessFlags := 10, slot := 12, constantValue := 0 }, { name := "bootLayer", type := (.object "java/lang/ModuleLayer"), accessFlags := 8, slot := 13, constantValue := 0 }]
  methods := #[k5m0, k5m1]
  instanceTypes := #[]
  staticTypes := #[(.object "java/io/InputStream"), (.object "java/io/PrintStream"), (.object "java/io/PrintStream"), (.object "java/io/InputStream"), .int, .int, .int, (.object "java/lang/SecurityManager"), (.object "java/lang/String"), (.object "java/io/Console"), (.object "java/io/PrintStream"), (.object "java/util/Properties"), (.object "java/lang/String"), (.object "java/lang/ModuleLayer")]
  resolved := Array.replicate 834 none
  statics := none }

def pool6 : Array CpInfo := pool [(1, u "java/lang/Cloneable"), (0, .class_ 1), (0, u "java/lang/Object"), (0, .class_ 3)] 3

/-- java/lang/Cloneable -/
def k6 : Class := { plain "java/lang/Cloneable" (some 0) with
  accessFlags := 1537
  interfaces := #[]
  cf := some (fileOf pool6 2 #[] #[] 1537 4 #[] #[])
  fields := #[]
  methods := #[]
  instanceTypes := #[]
  staticTypes := #[]
  resolved := Array.replicate 8 none
  statics := none }

def pool7 : Array CpInfo := pool [(1, u "java/io/Serializable"), (0, .class_ 1), (0, u "java/lang/Object"), (0, .class_ 3)] 3

/-- java/io/Serializable -/
def k7 : Class := { plain "java/io/Serializable" (some 0) with
  accessFlags := 1537
  interfaces := #[]
  cf := some (fileOf pool7 2 #[] #[] 1537 4 #[] #[])
  fields := #[]
  methods := #[]
  instanceTypes := #[]
  staticTypes := #[]
  resolved := Array.replicate 8 none
  statics := none }

/-- the primitive byte -/
def k8 : Class := { plain "byte" none with kind := .primitive 'B', accessFlags := 0x411 }
/-- [B -/
def k9 : Class := { plain "[B" (some 0) with kind := .array 8 .byte, interfaces := #[6, 7], accessFlags := 1041 }

/-- the primitive int -/
def k10 : Class := { plain "int" none with kind := .primitive 'I', accessFlags := 0x411 }
/-- [I -/
def k11 : Class := { plain "[I" (some 0) with kind := .array 10 .int, interfaces := #[6, 7], accessFlags := 1041 }

def heap : Heap := #[]
def classes : Array Class := #[k0, k1, k2, k3, k4, k5, k6, k7, k8, k9, k10, k11]
def interned : List (Array UInt16 × Addr) := []
def slotsUsed : Nat := 0
def theMethod : MethodId := ⟨1, 1⟩
def args0 : Array Value := #[.int 5, .int 1, .int 1]
def aboutOver (below : List Frame) : State where
  vm := { classes := classes, interned := interned.toArray }
  heap := heap
  slotsUsed := slotsUsed
  threads := #[{ frames := .invoking theMethod args0 :: below }]
def below0 : List Frame := [.native { method := ⟨0, 0⟩, args := #[] }]
def about1 : State := aboutOver below0
def p0 : Program := .bare "" "" ""
def e0 : Env := launch0.env 0 0 0
theorem w_frames : about1.frames = Frame.invoking theMethod args0 :: below0 := rfl
set_option maxRecDepth 65536 in
theorem w_args : argsFit about1.vm theMethod args0 = true := by decide +kernel
set_option maxRecDepth 65536 in
theorem w_heap : heapFits about1 = true := by decide +kernel
set_option maxRecDepth 65536 in
theorem w_runnable : about1.curStatus? = some .runnable := by decide +kernel
set_option maxRecDepth 65536 in
theorem w_alone : about1.alone = true := by decide +kernel
set_option maxRecDepth 65536 in
theorem w_named : about1.methodNamed? x = some theMethod := by decide +kernel
set_option maxRecDepth 65536 in
theorem w_hears : about1.hears theMethod below0 = true := by decide +kernel
set_option maxRecDepth 65536 in
theorem w_ripe : about1.ripe theMethod args0 below0 = true := by decide +kernel
theorem w_running : about1.status = .running := rfl
set_option maxRecDepth 65536 in
theorem w_room : about1.hasRoom e0.platform room_1 = true :=
  launch0.hasRoom_least _ room_1 (by decide +kernel) (by decide +kernel) (by decide +kernel) (by decide +kernel) (by decide +kernel) (by decide +kernel)
theorem allAtoms_all (ts : List Jvm.Cond) (a : Array Jvm.Value) (st : Jvm.State) : (allAtoms ts).before a st = ts.all (fun c => c.before a st) := by
  induction ts with
  | nil => rfl
  | cons c t ih =>
    show (Jvm.Cond.and c (allAtoms t)).before a st = _
    rw [Jvm.Cond.before_and, ih, List.all_cons]
def words1 : List Jvm.Cond := Jvm.Cond.code x code maxLocals ret :: tables_1
/-- a 'code' word, met by the world's own term for the bytes: nothing is compared byte by byte -/
theorem code_word {y : MethodName} {bytes : ByteArray} {mx : Nat} {rt : Option FieldType} {a : Array Value} {s : State} {m : MethodId} {meth : Method} {c : Code} (h1 : s.methodNamed? y = some m) (h2 : s.vm.method? m = some meth) (h3 : meth.code = some c) (h4 : c.code = bytes)
    (h5 : (c.maxLocals == mx && c.exceptionTable.isEmpty && decide (c.maxStack ≤ mostOperands) && decide (meth.sig.returnType = rt) && !meth.locks && decide (parseMethodDescriptor y.desc = some meth.sig)) = true) : (Jvm.Cond.code y bytes mx rt).before a s = true := by
  simp only [Bool.and_eq_true, beq_iff_eq, Bool.not_eq_true', decide_eq_true_eq] at h5
  obtain ⟨⟨⟨⟨⟨g1, g2⟩, g3⟩, g4⟩, g5⟩, g6⟩ := h5
  simp [Cond.before, Cond.holds, Cond.value, h1, h2, h3, h4, g1, g2, g3, g4, g5, g6]
def isCode : Jvm.Cond → Bool
  | .code _ _ _ _ => true
  | _ => false
theorem all_split {L : List Jvm.Cond} {P : Jvm.Cond → Bool} (h1 : L.all (fun c => isCode c || P c) = true) (h2 : ∀ c ∈ L.filter isCode, P c = true) : L.all P = true := by
  refine List.all_eq_true.mpr fun c hc => ?_
  have h := List.all_eq_true.mp h1 c hc
  rcases Bool.eq_false_or_eq_true (isCode c) with hi | hi
  · exact h2 c (List.mem_filter.mpr ⟨hc, hi⟩)
  · simpa [hi] using h
set_option maxRecDepth 65536 in
theorem w_c0 : (Jvm.Cond.code x code maxLocals ret).before args0 about1 = true := code_word (m := ⟨1, 1⟩) (meth := k1m1) (c := k1c1) (by decide +kernel) rfl rfl rfl (by decide +kernel)
set_option maxRecDepth 65536 in
theorem w_c1 : (Jvm.Cond.code ({ cls := "com/example/cellsight/cellsight/analysis/UnionFind", name := "<init>", desc := "()V" } : Jvm.MethodName) prog_21_method_1_code (1 : Nat) (Option.none : Option Jvm.ClassFile.FieldType)).before args0 about1 = true := code_word (m := ⟨2, 0⟩) (meth := k2m0) (c := k2c0) (by decide +kernel) rfl rfl rfl (by decide +kernel)
set_option maxRecDepth 65536 in
theorem w_c2 : (Jvm.Cond.code ({ cls := "java/lang/Object", name := "<init>", desc := "()V" } : Jvm.MethodName) object_method_1_code (1 : Nat) (Option.none : Option Jvm.ClassFile.FieldType)).before args0 about1 = true := code_word (m := ⟨0, 0⟩) (meth := k0m0) (c := k0c0) (by decide +kernel) rfl rfl rfl (by decide +kernel)
set_option maxRecDepth 65536 in
theorem w_c3 : (Jvm.Cond.code ({ cls := "com/example/cellsight/cellsight/analysis/UnionFind", name := "find", desc := "(I)I" } : Jvm.MethodName) prog_21_method_2_code (5 : Nat) (Option.some Jvm.ClassFile.FieldType.int)).before args0 about1 = true := code_word (m := ⟨2, 1⟩) (meth := k2m1) (c := k2c1) (by decide +kernel) rfl rfl rfl (by decide +kernel)
set_option maxRecDepth 65536 in
theorem w_c4 : (Jvm.Cond.code ({ cls := "com/example/cellsight/cellsight/analysis/UnionFindFindPinLaw", name := "expected", desc := "(IIIIIZZII)I" } : Jvm.MethodName) method_3_code (9 : Nat) (Option.some Jvm.ClassFile.FieldType.int)).before args0 about1 = true := code_word (m := ⟨1, 2⟩) (meth := k1m2) (c := k1c2) (by decide +kernel) rfl rfl rfl (by decide +kernel)
set_option maxRecDepth 65536 in
theorem w_c5 : (Jvm.Cond.code ({ cls := "com/example/cellsight/cellsight/analysis/UnionFind", name := "link", desc := "(II)I" } : Jvm.MethodName) prog_21_method_3_code (3 : Nat) (Option.some Jvm.ClassFile.FieldType.int)).before args0 about1 = true := code_word (m := ⟨2, 2⟩) (meth := k2m2) (c := k2c2) (by decide +kernel) rfl rfl rfl (by decide +kernel)
set_option maxRecDepth 65536 in
theorem w_c6 : (Jvm.Cond.code ({ cls := "java/lang/Math", name := "max", desc := "(II)I" } : Jvm.MethodName) jdk_29_method_65_code (2 : Nat) (Option.some Jvm.ClassFile.FieldType.int)).before args0 about1 = true := code_word (m := ⟨3, 1⟩) (meth := k3m1) (c := k3c1) (by decide +kernel) rfl rfl rfl (by decide +kernel)
set_option maxRecDepth 65536 in
theorem w_c7 : (Jvm.Cond.code ({ cls := "com/example/cellsight/cellsight/analysis/UnionFind", name := "grow", desc := "(I)V" } : Jvm.MethodName) prog_21_method_4_code (5 : Nat) (Option.none : Option Jvm.ClassFile.FieldType)).before args0 about1 = true := code_word (m := ⟨2, 3⟩) (meth := k2m3) (c := k2c3) (by decide +kernel) rfl rfl rfl (by decide +kernel)
set_option maxRecDepth 65536 in
theorem w_c8 : (Jvm.Cond.code ({ cls := "java/util/Arrays", name := "copyOf", desc := "([II)[I" } : Jvm.MethodName) jdk_65_method_123_code (3 : Nat) (Option.some (Jvm.ClassFile.FieldType.array Jvm.ClassFile.FieldType.int))).before args0 about1 = true := code_word (m := ⟨4, 1⟩) (meth := k4m1) (c := k4c1) (by decide +kernel) rfl rfl rfl (by decide +kernel)
set_option maxRecDepth 65536 in
theorem w_c9 : (Jvm.Cond.code ({ cls := "java/lang/Math", name := "min", desc := "(II)I" } : Jvm.MethodName) jdk_29_method_69_code (2 : Nat) (Option.some Jvm.ClassFile.FieldType.int)).before args0 about1 = true := code_word (m := ⟨3, 2⟩) (meth := k3m2) (c := k3c2) (by decide +kernel) rfl rfl rfl (by decide +kernel)
def codes1 : List Jvm.Cond := [Jvm.Cond.code x code maxLocals ret, Jvm.Cond.code ({ cls := "com/example/cellsight/cellsight/analysis/UnionFind", name := "<init>", desc := "()V" } : Jvm.MethodName) prog_21_method_1_code (1 : Nat) (Option.none : Option Jvm.ClassFile.FieldType), Jvm.Cond.code ({ cls := "java/lang/Object", name := "<init>", desc := "()V" } : Jvm.MethodName) object_method_1_code (1 : Nat) (Option.none : Option Jvm.ClassFile.FieldType), Jvm.Cond.code ({ cls := "com/example/cellsight/cellsight/analysis/UnionFind", name := "find", desc := "(I)I" } : Jvm.MethodName) prog_21_method_2_code (5 : Nat) (Option.some Jvm.ClassFile.FieldType.int), Jvm.Cond.code ({ cls := "com/example/cellsight/cellsight/analysis/UnionFindFindPinLaw", name := "expected", desc := "(IIIIIZZII)I" } : Jvm.MethodName) method_3_code (9 : Nat) (Option.some Jvm.ClassFile.FieldType.int), Jvm.Cond.code ({ cls := "com/example/cellsight/cellsight/analysis/UnionFind", name := "link", desc := "(II)I" } : Jvm.MethodName) prog_21_method_3_code (3 : Nat) (Option.some Jvm.ClassFile.FieldType.int), Jvm.Cond.code ({ cls := "java/lang/Math", name := "max", desc := "(II)I" } : Jvm.MethodName) jdk_29_method_65_code (2 : Nat) (Option.some Jvm.ClassFile.FieldType.int), Jvm.Cond.code ({ cls := "com/example/cellsight/cellsight/analysis/UnionFind", name := "grow", desc := "(I)V" } : Jvm.MethodName) prog_21_method_4_code (5 : Nat) (Option.none : Option Jvm.ClassFile.FieldType), Jvm.Cond.code ({ cls := "java/util/Arrays", name := "copyOf", desc := "([II)[I" } : Jvm.MethodName) jdk_65_method_123_code (3 : Nat) (Option.some (Jvm.ClassFile.FieldType.array Jvm.ClassFile.FieldType.int)), Jvm.Cond.code ({ cls := "java/lang/Math", name := "min", desc := "(II)I" } : Jvm.MethodName) jdk_29_method_69_code (2 : Nat) (Option.some Jvm.ClassFile.FieldType.int)]
set_option maxRecDepth 65536 in
theorem codes_eq : words1.filter isCode = codes1 := rfl
theorem w_codes : ∀ c ∈ words1.filter isCode, c.before args0 about1 = true := by
  rw [codes_eq]
  intro c hc
  simp only [codes1, List.mem_cons, List.not_mem_nil, or_false] at hc
  rcases hc with rfl | rfl | rfl | rfl | rfl | rfl | rfl | rfl | rfl | rfl
  · exact w_c0
  · exact w_c1
  · exact w_c2
  · exact w_c3
  · exact w_c4
  · exact w_c5
  · exact w_c6
  · exact w_c7
  · exact w_c8
  · exact w_c9
set_option maxRecDepth 65536 in
theorem w_t1 : (words1.take 24).all (fun c => isCode c || c.before args0 about1) = true := by decide +kernel
set_option maxRecDepth 65536 in
theorem w_t2 : ((words1.drop 24).take 24).all (fun c => isCode c || c.before args0 about1) = true := by decide +kernel
set_option maxRecDepth 65536 in
theorem w_t3 : ((words1.drop 24).drop 24).all (fun c => isCode c || c.before args0 about1) = true := by decide +kernel
theorem w_tables : (allAtoms (Jvm.Cond.code x code maxLocals ret :: tables_1)).before args0 about1 = true := by
  rw [allAtoms_all]
  show words1.all (fun c => c.before args0 about1) = true
  refine all_split ?_ w_codes
  rw [← List.take_append_drop 24 words1, List.all_append, w_t1, ← List.take_append_drop 24 (words1.drop 24), List.all_append, w_t2, w_t3]
  rfl
set_option maxRecDepth 65536 in
theorem w_case : (Jvm.Cond.and given_1 narrow_1).before args0 about1 = true := by decide +kernel
theorem w_applies : (headSpec (Jvm.Cond.code x code maxLocals ret :: tables_1) room_1).applies x e0.platform about1 = true :=
  (Spec.applies_iff w_frames).mpr ⟨w_running, w_runnable, w_alone, w_named, w_hears, w_ripe, w_room, w_tables⟩
theorem atStart : AtStart classFile x code maxLocals ret World_1 tables_1 room_1 Calls_1 rest_1 Pre_1 launch0 p0 e0 about1 theMethod args0 below0 :=
  ⟨lists_1, trivial, launch0.admits_env _ _ _, launch0.least_env, fairChoices_fair.cas, fairChoices_fair.clock, w_frames, w_args, w_heap, w_applies, trivial, trivial, w_case⟩
end start1
theorem witness_1 : WitnessClaimed_1 := ⟨start1.p0, start1.e0, start1.about1, start1.theMethod, start1.args0, start1.below0, start1.atStart⟩
end Jvm.Pilot.@@N@@
