import JvmDerived
import JvmDerived.Pilot.@@N@@Statement
import JvmDerived.Pilot.@@N@@Code
set_option linter.unusedVariables false
set_option linter.unusedSimpArgs false
@@BLOCK:NumsL.lean.txt@@
namespace Jvm.RoadKit
open Sem ClassFile Op Lib Jvm.Stand Jvm.Free Jvm.LawKit
section New
variable {p : Program} {l : Launch} {e : Env} {R : Room} {s : State} {m : MethodId} {args : Array Value} {below : List Frame} {meth : Method} {c : Code} {T : State} {locs : List Loc} {cells slots : Nat}
theorem retI (X : Stand p l e R s m args below meth c T locs cells slots) (hx : p.tables.exec = Jvm.exec) {pc : Nat} {Ls : Array Slot} {z : Int32} {rest : List Value} (hret : meth.sig.returnType = some .int) (hd : decode c.code pc = .ok (.ireturn, 1)) {fs : List Frame}
    (hl : ∀ (f : JFrame) (acts : List Action), f.method = m → f.locked = none → f.entered = [] → (doReturn e (T.setTop f) acts (some (.int z))).1 = T.setFrames fs) : Steps p.tables e below (T.setTop (mkF m pc Ls (.int z :: rest))) (T.setFrames fs) := by
  have hm' : T.vm.method? m = some meth := X.method'
  have hn : narrow .int (.int z) = .int z := rfl
  show Steps p.tables e below (T.setTop { method := m, pc := pc, locals := Ls, stack := _ :: rest, locked := none }) _
  jvm_step X.here [X.here.top, hx, hd, hm', hret, hn]
  first | (intro acts; rw [hl _ acts rfl rfl rfl]) | rw [hl _ _ rfl rfl rfl]
  exact Steps.refl _
end New
end Jvm.RoadKit
namespace Jvm.Pilot.@@N@@
open Jvm Jvm.ClassFile Sem Op Lib Jvm.Free Jvm.Stand Jvm.LawKit Jvm.RoadKit Bundle Jvm.Pilot.@@N@@.Jvm.D
section OwnLayer
variable {p : Program} {l : Launch} {e : Env} {R : Room} {s : State} {m : MethodId} {args : Array Value} {below : List Frame} {meth : Method} {c : Code} {T T' : State} {h h' : Heap} {n0 ck sk ck' sk' : Nat} {Z : State} {a0 : Array Value} {Post : Outcome → State → Prop} {g g' : JFrame}
/-- from this state and frame the run comes to an end of the invocation of which Post holds -/
def Go (p : Program) (e : Env) (below : List Frame) (Post : Outcome → State → Prop) (T : State) (g : JFrame) : Prop :=
  ∃ s₂ o, Steps p.tables e below (T.setTop g) s₂ ∧ s₂.status = .running ∧ Ended s₂ below o ∧ Post o s₂
theorem Go.st (hs : ∀ t, Steps p.tables e below (T'.setTop g') t → Steps p.tables e below (T.setTop g) t) (k : Go p e below Post T' g') : Go p e below Post T g := by
  obtain ⟨s2, o, h1, h2⟩ := k
  exact ⟨s2, o, hs _ h1, h2⟩
/-- where the walk stands: the heap is h; what was written lies at or above n0; at most ck cells and sk slots were made -/
def Stn (p : Program) (l : Launch) (e : Env) (R : Room) (s : State) (m : MethodId) (args : Array Value) (below : List Frame) (meth : Method) (c : Code) (n0 : Nat) (T : State) (h : Heap) (ck sk : Nat) : Prop :=
  T.heap = h ∧ ∃ locs, Fr n0 locs ∧ Stand p l e R s m args below meth c T locs ck sk
theorem Stn.here (X : Stn p l e R s m args below meth c n0 T h ck sk) : At T m c below := by
  obtain ⟨_, _, _, Y⟩ := X
  exact Y.here
theorem Stn.mono (X : Stn p l e R s m args below meth c n0 T h ck sk) (h1 : ck ≤ ck') (h2 : sk ≤ sk') : Stn p l e R s m args below meth c n0 T h ck' sk' := by
  obtain ⟨e1, L, N, Y⟩ := X
  exact ⟨e1, L, N, Y.more h1 h2⟩
/-- what a body's end says -/
def PostW (s : State) (n0 C S : Nat) (Q : Option Value → Heap → Prop) (o : Outcome) (U : State) : Prop :=
  ∃ v L, o = .returned v ∧ (Fr n0 L ∧ Q v U.heap) ∧ FrameEnd s o U L C S
/-- a body's contract -/
def Con (l : Launch) (y : MethodName) (bytes : ByteArray) (maxL : Nat) (ret : Option FieldType) (rm : Room) (ws : List Jvm.Cond) (Z : State) (n0 : Nat) (as' : Array Value) (h : Heap) (Q : Option Value → Heap → Prop) : Prop :=
  MetFree l y (head1 (Jvm.Cond.code y bytes maxL ret :: ws) rm) (fun a U => a = as' ∧ Z.Warmed39 U.vm ∧ U.heap = h) (fun _ _ _ _ _ => True) (fun _ U o U' => ∃ v L, o = .returned v ∧ (Fr n0 L ∧ Q v U'.heap) ∧ FrameEnd U o U' L rm.cells rm.slots)
theorem Con.body {y : MethodName} {bytes : ByteArray} {maxL : Nat} {ret : Option FieldType} {rm : Room} {ws : List Jvm.Cond} {as' : Array Value} {Q : Option Value → Heap → Prop} (hp : plainFor y = true)
    (k : ∀ (p : Program) (e : Env) (s : State) (m : MethodId) (below : List Frame) (meth : Method) (c : Code) (s₁ : State), p.tables.exec = Jvm.exec → c.code = bytes → c.maxLocals = maxL → s.vm.findClass y.cls = some m.cls → meth.name = y.name → meth.sig.returnType = ret → meth.locks = false → Z.Warmed39 s.vm →
      Stn p l e rm s m as' below meth c n0 s₁ h 0 0 → Go p e below (PostW s n0 rm.cells rm.slots Q) s₁ (entryFrame m as' maxL)) : Con l y bytes maxL ret rm ws Z n0 as' h Q := by
  refine MetFree.of_bodySF hp hisR ?_
  intro p e s m args below meth c s₁ Bd hml0 hP hK
  obtain ⟨rfl, hZ, hh⟩ := hP
  have e0 : s₁.heap = h := by rw [← hh, Bd.state]; rfl
  exact k p e s m below meth c s₁ Bd.exec Bd.bytes hml0 (findClass_of_methodNamed Bd.named) (name_of_methodNamed Bd.named Bd.method).1 Bd.returns Bd.notSynchronized hZ ⟨e0, [], Fr.nil n0, Stand.of_body Bd⟩
theorem Con.mono {y : MethodName} {bytes : ByteArray} {maxL : Nat} {ret : Option FieldType} {rm : Room} {ws : List Jvm.Cond} {as' : Array Value} {Q Q' : Option Value → Heap → Prop} (hM : Con l y bytes maxL ret rm ws Z n0 as' h Q) (hq : ∀ v h', Q v h' → Q' v h') : Con l y bytes maxL ret rm ws Z n0 as' h Q' := by
  intro p e ha hc hk s m args below hf happ hP hK
  obtain ⟨n, o, h1, h2, h3, v, L, h4, ⟨h5, h6⟩, h7⟩ := hM p e ha hc hk s m args below hf happ hP hK
  exact ⟨n, o, h1, h2, h3, v, L, h4, ⟨h5, hq _ _ h6⟩, h7⟩
/-! a long's comparison -/
theorem lcTlt {a b : Int64} (h : a < b) : ifCond.holds .lt (lcmpW a b) = true ∧ ifCond.holds .ge (lcmpW a b) = false := by
  have q : lcmpW a b < 0 := by rw [lcW]; exact (lc_lt a b).mpr h
  exact ⟨(if0 _ _).trans (tlt q).1, (if0 _ _).trans (tlt q).2.1⟩
theorem lcFlt {a b : Int64} (h : ¬ a < b) : ifCond.holds .lt (lcmpW a b) = false ∧ ifCond.holds .ge (lcmpW a b) = true := by
  have q : ¬ lcmpW a b < 0 := fun z => h ((lc_lt a b).mp (by rw [← lcW]; exact z))
  exact ⟨(if0 _ _).trans (flt q).1, (if0 _ _).trans (flt q).2.1⟩
theorem lcTgt {a b : Int64} (h : b < a) : ifCond.holds .gt (lcmpW a b) = true ∧ ifCond.holds .le (lcmpW a b) = false := by
  have q : 0 < lcmpW a b := by rw [lcW]; exact (lc_gt a b).mpr h
  exact ⟨(if0 _ _).trans (tlt q).2.2.1, (if0 _ _).trans (tlt q).2.2.2⟩
theorem lcFgt {a b : Int64} (h : ¬ b < a) : ifCond.holds .gt (lcmpW a b) = false ∧ ifCond.holds .le (lcmpW a b) = true := by
  have q : ¬ 0 < lcmpW a b := fun z => h ((lc_gt a b).mp (by rw [← lcW]; exact z))
  exact ⟨(if0 _ _).trans (flt q).2.2.1, (if0 _ _).trans (flt q).2.2.2⟩
theorem lcTeq {a b : Int64} (h : a = b) : ifCond.holds .eq (lcmpW a b) = true ∧ ifCond.holds .ne (lcmpW a b) = false := by
  have q : lcmpW a b = 0 := by rw [lcW]; exact (lc_eq a b).mpr h
  exact ⟨(if0 _ _).trans (teq q).1, (if0 _ _).trans (teq q).2⟩
theorem lcFeq {a b : Int64} (h : ¬ a = b) : ifCond.holds .eq (lcmpW a b) = false ∧ ifCond.holds .ne (lcmpW a b) = true := by
  have q : ¬ lcmpW a b = 0 := fun z => h ((lc_eq a b).mp (by rw [← lcW]; exact z))
  exact ⟨(if0 _ _).trans (feq q).1, (if0 _ _).trans (feq q).2⟩
theorem acT {a b : Addr} (h : a = b) : if_acmp.holds .eq (some a) (some b) = true ∧ if_acmp.holds .ne (some a) (some b) = false := by subst h; simp [if_acmp.holds]
theorem acF {a b : Addr} (h : ¬ a = b) : if_acmp.holds .eq (some a) (some b) = false ∧ if_acmp.holds .ne (some a) (some b) = true := by simp [if_acmp.holds, h]
/-! returns -/
theorem goRet {v : Option Value} {Q : Option Value → Heap → Prop} {C S : Nat} (X : Stn p l e R s m args below meth c n0 T h ck sk) (hlk : meth.locks = false) (hv : meth.sig.returnType = none → v = none)
    (hst : ∀ locs fs, Stand p l e R s m args below meth c T locs ck sk → (∀ (f : JFrame) (acts : List Action), f.method = m → f.locked = none → f.entered = [] → (doReturn e (T.setTop f) acts v).1 = T.setFrames fs) → Steps p.tables e below (T.setTop g) (T.setFrames fs))
    (hq : Q v h) (h1 : ck ≤ C) (h2 : sk ≤ S) : Go p e below (PostW s n0 C S Q) T g := by
  obtain ⟨eT, locs, N, Y⟩ := X
  obtain ⟨fs, hr, hrun, hended, hW, hsame⟩ := Y.leave hv hlk
  exact ⟨_, _, hst locs fs Y hr, hrun, hended, _, _, rfl, ⟨N, (by show Q v T.heap; rw [eT]; exact hq)⟩, ⟨_, rfl⟩, hW, hsame.mono h1 h2⟩
theorem goRetI {pc : Nat} {Ls : Array Slot} {z : Int32} {rest : List Value} {Q : Option Value → Heap → Prop} {C S : Nat} (X : Stn p l e R s m args below meth c n0 T h ck sk) (hx : p.tables.exec = Jvm.exec) (hlk : meth.locks = false) (hret : meth.sig.returnType = some .int)
    (hd : decode c.code pc = .ok (.ireturn, 1)) (h1 : ck ≤ C) (h2 : sk ≤ S) (hq : Q (some (.int z)) h) : Go p e below (PostW s n0 C S Q) T (mkF m pc Ls (.int z :: rest)) :=
  goRet X hlk (fun h => by rw [hret] at h; cases h) (fun _ _ Y hr => retI Y hx hret hd hr) hq h1 h2
theorem goRetZ {pc : Nat} {Ls : Array Slot} {z : Int32} {rest : List Value} {Q : Option Value → Heap → Prop} {C S : Nat} (X : Stn p l e R s m args below meth c n0 T h ck sk) (hx : p.tables.exec = Jvm.exec) (hlk : meth.locks = false) (hret : meth.sig.returnType = some .boolean)
    (hd : decode c.code pc = .ok (.ireturn, 1)) (h1 : ck ≤ C) (h2 : sk ≤ S) (hz : z = 0 ∨ z = 1) (hq : Q (some (.int z)) h) : Go p e below (PostW s n0 C S Q) T (mkF m pc Ls (.int z :: rest)) := by
  rcases hz with rfl | rfl
  · exact goRet X hlk (fun h => by rw [hret] at h; cases h) (fun _ _ Y hr => retN Y hx (t := .boolean) hret (by simp) hd hr) hq h1 h2
  · exact goRet X hlk (fun h => by rw [hret] at h; cases h) (fun _ _ Y hr => retN Y hx (t := .boolean) hret (by simp) hd hr) hq h1 h2
theorem goRetV {pc : Nat} {Ls : Array Slot} {Q : Option Value → Heap → Prop} {C S : Nat} (X : Stn p l e R s m args below meth c n0 T h ck sk) (hx : p.tables.exec = Jvm.exec) (hlk : meth.locks = false) (hret : meth.sig.returnType = none)
    (hd : decode c.code pc = .ok (.return_, 1)) (h1 : ck ≤ C) (h2 : sk ≤ S) (hq : Q none h) : Go p e below (PostW s n0 C S Q) T (mkF m pc Ls []) :=
  goRet X hlk (fun _ => rfl) (fun _ _ Y hr => Y.returnOut hx hret hd hr) hq h1 h2
theorem goRetL {pc : Nat} {Ls : Array Slot} {z : Int64} {rest : List Value} {Q : Option Value → Heap → Prop} {C S : Nat} (X : Stn p l e R s m args below meth c n0 T h ck sk) (hx : p.tables.exec = Jvm.exec) (hlk : meth.locks = false) (hret : meth.sig.returnType = some .long)
    (hd : decode c.code pc = .ok (.lreturn, 1)) (h1 : ck ≤ C) (h2 : sk ≤ S) (hq : Q (some (.long z)) h) : Go p e below (PostW s n0 C S Q) T (mkF m pc Ls (.long z :: rest)) :=
  goRet X hlk (fun h => by rw [hret] at h; cases h) (fun _ _ Y hr => by
    jvm_step Y.here [Y.here.top, hx, hd, Y.method', hret, narrow]
    first | (intro acts; rw [hr _ acts rfl rfl rfl]) | rw [hr _ _ rfl rfl rfl]
    exact Steps.refl _) hq h1 h2
theorem goRetA {pc : Nat} {Ls : Array Slot} {z : Addr} {rest : List Value} {t : FieldType} {Q : Option Value → Heap → Prop} {C S : Nat} (X : Stn p l e R s m args below meth c n0 T h ck sk) (hx : p.tables.exec = Jvm.exec) (hlk : meth.locks = false) (hret : meth.sig.returnType = some t) (ht : t.isReference = true)
    (hd : decode c.code pc = .ok (.areturn, 1)) (h1 : ck ≤ C) (h2 : sk ≤ S) (hq : Q (some (.ref z)) h) : Go p e below (PostW s n0 C S Q) T (mkF m pc Ls (.ref z :: rest)) :=
  goRet X hlk (fun h => by rw [hret] at h; cases h) (fun _ _ Y hr => by
    jvm_step Y.here [Y.here.top, hx, hd, Y.method', hret, Value.isRef, ht]
    first | (intro acts; rw [hr _ acts rfl rfl rfl]) | rw [hr _ _ rfl rfl rfl]
    exact Steps.refl _) hq h1 h2
/-! fields, objects -/
theorem goGet (X : Stn p l e R s m args below meth c n0 T h ck sk) (hx : p.tables.exec = Jvm.exec) (hZ : Z.Warmed39 s.vm) {own R0 O n d host : String} {index : Nat} (hown : s.vm.findClass own = some m.cls) (w : (Cond.fieldLink own index R0 n d).before a0 Z = true ∨ (Cond.fieldLinkNest own index R0 n d host).before a0 Z = true) (via : Via Z R0 O n d)
    {a : Addr} {v : Value} (F : Fld Z h a O n d v) {pc : Nat} {ls : Array Slot} {rest : List Value} (hd : decode c.code pc = .ok (.getfield index, 3))
    (k : ∀ T', Stn p l e R s m args below meth c n0 T' h ck sk → Go p e below Post T' (mkF m (pc + 3) ls (v :: rest))) : Go p e below Post T (mkF m pc ls (.ref a :: rest)) := by
  obtain ⟨eT, locs, N, Y⟩ := X
  obtain ⟨T', X', e', st⟩ := getF Y hx hZ hown w via eT F (g := mkF m pc ls (.ref a :: rest)) rfl rfl hd
  exact Go.st st (k T' ⟨e', locs, N, X'⟩)
theorem goPut (X : Stn p l e R s m args below meth c n0 T h ck sk) (hx : p.tables.exec = Jvm.exec) (hZ : Z.Warmed39 s.vm) {own R0 O n d host C : String} {index kk : Nat} {ty : FieldType} (hown : s.vm.findClass own = some m.cls) (w : (Cond.fieldLink own index R0 n d).before a0 Z = true ∨ (Cond.fieldLinkNest own index R0 n d host).before a0 Z = true) (via : Via Z R0 O n d)
    {a : Addr} {v old : Value} (F : Fld Z h a O n d old) (E : Exa Z h a C) (L : (Cond.lays C O n d).before a0 Z = true ∨ ((Cond.laysFinal C O n d).before a0 Z = true ∧ own = O ∧ meth.name = "<init>")) (wi : (Cond.instantiable C kk).before a0 Z = true)
    (hty : parseFieldDescriptor d = some ty) (hn : narrow ty v = v) (hf : fits ty v = true) (ha : n0 ≤ a) {pc : Nat} {ls : Array Slot} {rest : List Value} (hd : decode c.code pc = .ok (.putfield index, 3))
    (k : ∀ T' h', Stn p l e R s m args below meth c n0 T' h' ck sk → Wr h h' a (Jvm.RoadKit.slotOf Z O n d) v → Go p e below Post T' (mkF m (pc + 3) ls rest)) : Go p e below Post T (mkF m pc ls (v :: .ref a :: rest)) := by
  obtain ⟨eT, locs, N, Y⟩ := X
  obtain ⟨T', h', X', e', W, st⟩ := putF Y hx hZ hown w via eT F E L wi hty hn hf (g := mkF m pc ls (v :: .ref a :: rest)) rfl rfl hd
  exact Go.st st (k T' h' ⟨e', _, Fr.snoc X' N ha, X'⟩ W)
theorem goPutN (X : Stn p l e R s m args below meth c n0 T h ck sk) (hx : p.tables.exec = Jvm.exec) (hZ : Z.Warmed39 s.vm) {own R0 O n d C : String} {index kk : Nat} {ty : FieldType} (hown : s.vm.findClass own = some m.cls) (w : (Cond.fieldLink own index R0 n d).before a0 Z = true) (via : Via Z R0 O n d)
    {a : Addr} {v v' old : Value} (F : Fld Z h a O n d old) (E : Exa Z h a C) (L : (Cond.lays C O n d).before a0 Z = true ∨ ((Cond.laysFinal C O n d).before a0 Z = true ∧ own = O ∧ meth.name = "<init>")) (wi : (Cond.instantiable C kk).before a0 Z = true)
    (hty : parseFieldDescriptor d = some ty) (hn : narrow ty v = v') (hf : fits ty v' = true) (ha : n0 ≤ a) {pc : Nat} {ls : Array Slot} {rest : List Value} (hd : decode c.code pc = .ok (.putfield index, 3))
    (k : ∀ T' h', Stn p l e R s m args below meth c n0 T' h' ck sk → Wr h h' a (Jvm.RoadKit.slotOf Z O n d) v' → Go p e below Post T' (mkF m (pc + 3) ls rest)) : Go p e below Post T (mkF m pc ls (v :: .ref a :: rest)) := by
  obtain ⟨eT, locs, N, Y⟩ := X
  obtain ⟨T', h', X', e', W, st⟩ := putFN Y hx hZ hown w via eT F E L wi hty hn hf (g := mkF m pc ls (v :: .ref a :: rest)) rfl rfl hd
  exact Go.st st (k T' h' ⟨e', _, Fr.snoc X' N ha, X'⟩ W)
theorem goNew (X : Stn p l e R s m args below meth c n0 T h ck sk) (hx : p.tables.exec = Jvm.exec) (hZ : Z.Warmed39 s.vm) {own C : String} {index n : Nat} (hown : s.vm.findClass own = some m.cls) (w : (Cond.classLink own index C).before a0 Z = true) (wi : (Cond.instantiable C n).before a0 Z = true) (wz : (Cond.initialized C).before a0 Z = true)
    {pc : Nat} {ls : Array Slot} {st : List Value} (hd : decode c.code pc = .ok (.new index, 3)) (hc : ck + 1 ≤ R.cells) (hl : sk + n ≤ R.slots)
    (k : ∀ T' h' a, a = h.size → Stn p l e R s m args below meth c n0 T' h' (ck + 1) (sk + n) → Ext h h' → Exa Z h' a C → (∀ {O nm d : String} {ty : FieldType}, Laid Z a0 C O nm d → parseFieldDescriptor d = some ty → Fld Z h' a O nm d (defaultValue ty)) → Go p e below Post T' (mkF m (pc + 3) ls (.ref a :: st))) : Go p e below Post T (mkF m pc ls st) := by
  obtain ⟨eT, locs, N, Y⟩ := X
  obtain ⟨T', h', X', e', E, A, D, -, stp⟩ := newO Y hx hZ hown w wi wz eT (g := mkF m pc ls st) rfl hd hc hl
  exact Go.st stp (k T' h' _ rfl ⟨e', locs, N, X'⟩ E A D)
theorem goInit (X : Stn p l e R s m args below meth c n0 T h ck sk) (hx : p.tables.exec = Jvm.exec) (hZ : Z.Warmed39 s.vm) {own : String} {idx : Nat} (hown : s.vm.findClass own = some m.cls) (w1 : (Cond.methodLink own idx Lib.objectInit).before a0 Z = true) (w2 : (Cond.instanceMethod Lib.objectInit).before a0 Z = true)
    (w3 : (Cond.code Lib.objectInit object_method_1_code 1 none).before a0 Z = true) {pc : Nat} {ls : Array Slot} {a : Addr} {rest : List Value} (hsize : ls.size = c.maxLocals) (hd : decode c.code pc = .ok (.invokespecial idx, 3))
    (hf : 1 ≤ R.frames) {W : Nat} (hW : (rest.map fun v => v.category).sum ≤ W) (hl : W + 12 ≤ R.locals)
    (k : ∀ T', Stn p l e R s m args below meth c n0 T' h ck sk → Go p e below Post T' (mkF m (pc + 3) ls rest)) : Go p e below Post T (mkF m pc ls (.ref a :: rest)) := by
  obtain ⟨eT, locs, N, Y⟩ := X
  obtain ⟨T', X', e', st⟩ := initO Y hx hZ hown w1 w2 w3 eT (g := mkF m pc ls (.ref a :: rest)) rfl hsize rfl hd hf (W := W) (by show 2 * 0 + _ ≤ _; omega) hl
  exact Go.st st (k T' ⟨e', locs, N, X'⟩)
theorem Stn.ldcI (X : Stn p l e R s m args below meth c n0 T h ck sk) (hx : p.tables.exec = Jvm.exec) (hZ : Z.Warmed39 s.vm) {own : String} {index : Nat} {v : Int32} (hown : s.vm.findClass own = some m.cls) (w : (Cond.constant own index v).before a0 Z = true)
    {pc : Nat} {ls : Array Slot} {st : List Value} (hd : decode c.code pc = .ok (.ldc index, 2)) {t : State} (k : Steps p.tables e below (T.setTop (mkF m (pc + 2) ls (.int v :: st))) t) : Steps p.tables e below (T.setTop (mkF m pc ls st)) t := by
  obtain ⟨eT, locs, N, Y⟩ := X
  exact Y.ldcInt hx hown (mvT hZ w) (g := mkF m pc ls st) rfl hd t k
theorem Stn.ldcJ (X : Stn p l e R s m args below meth c n0 T h ck sk) (hx : p.tables.exec = Jvm.exec) (hZ : Z.Warmed39 s.vm) {own : String} {index : Nat} {v : Int64} (hown : s.vm.findClass own = some m.cls) (w : (Cond.constantLong own index v).before a0 Z = true)
    {pc : Nat} {ls : Array Slot} {st : List Value} (hd : decode c.code pc = .ok (.ldc2_w index, 3)) {t : State} (k : Steps p.tables e below (T.setTop (mkF m (pc + 3) ls (.long v :: st))) t) : Steps p.tables e below (T.setTop (mkF m pc ls st)) t := by
  obtain ⟨eT, locs, N, Y⟩ := X
  exact Y.ldc2Long hx hown (mvT hZ w) (g := mkF m pc ls st) rfl hd t k
/-! arrays: of kind ty, length n, whose places hold f -/
def Ary (Z : State) (h : Heap) (a : Addr) (ty : FieldType) (n : Nat) (f : Nat → Value) : Prop := ∃ cl : Cell, Arr Z h a cl ty ∧ cl.slots.size = n ∧ ∀ i, i < n → cl.slots[i]? = some (f i)
theorem Ary.lt {a : Addr} {ty : FieldType} {n : Nat} {f : Nat → Value} (A : Ary Z h a ty n f) : a < h.size := by obtain ⟨cl, A, -⟩ := A; exact A.lt
theorem Ary.ext {a : Addr} {ty : FieldType} {n : Nat} {f : Nat → Value} (E : Ext h h') (A : Ary Z h a ty n f) : Ary Z h' a ty n f := by obtain ⟨cl, A, r⟩ := A; exact ⟨cl, A.ext E, r⟩
theorem Ary.other {a b : Addr} {ty : FieldType} {n sl : Nat} {f : Nat → Value} {v : Value} (W : Wr h h' b sl v) (A : Ary Z h a ty n f) (q : a ≠ b) : Ary Z h' a ty n f := by obtain ⟨cl, A, r⟩ := A; exact ⟨cl, A.other W q, r⟩
theorem Ary.keep {a : Addr} {ty : FieldType} {n : Nat} {f : Nat → Value} {ws : List Addr} (A : Ary Z h a ty n f) (K : Keep h h' ws) (q : a ∉ ws) : Ary Z h' a ty n f := by obtain ⟨cl, A, r⟩ := A; exact ⟨cl, ⟨K.2.1 a cl A.1 q, A.2⟩, r⟩
theorem Ary.congr {a : Addr} {ty : FieldType} {n : Nat} {f f' : Nat → Value} (A : Ary Z h a ty n f) (q : ∀ i, i < n → f i = f' i) : Ary Z h a ty n f' := by obtain ⟨cl, A, r1, r2⟩ := A; exact ⟨cl, A, r1, fun i hi => by rw [← q i hi]; exact r2 i hi⟩
theorem Ary.set {a : Addr} {ty : FieldType} {n j : Nat} {f : Nat → Value} {v : Value} (A : Ary Z h a ty n f) (W : Wr h h' a j v) : Ary Z h' a ty n (fun i => if i = j then v else f i) := by
  obtain ⟨cl, A, r1, r2⟩ := A
  have A' := A.same W
  obtain ⟨c1, q1, -, q2, -⟩ := W
  cases q1.symm.trans A.1
  refine ⟨_, A', by rw [sz_set]; exact r1, fun i hi => ?_⟩
  by_cases hij : i = j
  · subst hij
    simp [Cell.setSlot, q2]
  · have : j ≠ i := fun z => hij z.symm
    simp [Cell.setSlot, hij, Array.getElem?_setIfInBounds_ne this, r2 i hi]
theorem Ary.new {k : ClassId} {a : Addr} {ty : FieldType} {z : Int32} (A : Arr Z h a (newA k ty z) ty) : Ary Z h a ty z.toNatClampNeg (fun _ => defaultValue ty) :=
  ⟨_, A, sz_new _ _ _, fun i hi => by simp [newA, hi]⟩
theorem ne_ary {a b : Addr} {C : String} {kk n : Nat} {ty : FieldType} {f : Nat → Value} (F : Exa Z h a C) (wi : (Cond.instantiable C kk).before a0 Z = true) (G : Ary Z h b ty n f) : a ≠ b := by
  obtain ⟨cl, A, -⟩ := G
  exact ne_arr F wi A
theorem goNewA (X : Stn p l e R s m args below meth c n0 T h ck sk) (hx : p.tables.exec = Jvm.exec) (hZ : Z.Warmed39 s.vm) {aty : ArrayType} (w : (Cond.arrayClass (newarray.typeOf aty)).before a0 Z = true)
    {pc : Nat} {ls : Array Slot} {n : Int32} {rest : List Value} (hd : decode c.code pc = .ok (.newarray aty, 2)) (hn : ¬ n < 0) {cap : Nat} (hcap : n.toNatClampNeg ≤ cap) (hb : cap * 8 ≤ 536870912) (hc : ck + 1 ≤ R.cells) (hl : sk + cap ≤ R.slots) {ad : String} (had : "[" ++ (newarray.typeOf aty).toString = ad)
    (k : ∀ T' h' a, a = h.size → Stn p l e R s m args below meth c n0 T' h' (ck + 1) (sk + cap) → Ext h h' → Exa Z h' a ad → Ary Z h' a (newarray.typeOf aty) n.toNatClampNeg (fun _ => defaultValue (newarray.typeOf aty)) → Go p e below Post T' (mkF m (pc + 2) ls (.ref a :: rest))) : Go p e below Post T (mkF m pc ls (.int n :: rest)) := by
  obtain ⟨eT, locs, N, Y⟩ := X
  obtain ⟨T', h', cA, X', e', E, A, Ex, st⟩ := newPE Y hx hZ w eT (g := mkF m pc ls (.int n :: rest)) rfl hd rfl hn hcap hb hc hl had
  exact Go.st st (k T' h' _ rfl ⟨e', locs, N, X'⟩ E Ex (Ary.new A))
theorem goClone (X : Stn p l e R s m args below meth c n0 T h ck sk) (hx : p.tables.exec = Jvm.exec) (hZ : Z.Warmed39 s.vm) {own ad : String} {index : Nat} (hown : s.vm.findClass own = some m.cls)
    (w1 : (Cond.methodLink own index ⟨ad, "clone", "()Ljava/lang/Object;"⟩).before a0 Z = true) (w2 : (Cond.sameMethod ad "java/lang/Object" "clone" "()Ljava/lang/Object;").before a0 Z = true) (w3 : (Cond.native ⟨"java/lang/Object", "clone", "()Ljava/lang/Object;"⟩).before a0 Z = true)
    (w4 : (Cond.instanceMethod ⟨"java/lang/Object", "clone", "()Ljava/lang/Object;"⟩).before a0 Z = true) (w5 : (Cond.selects ad ⟨ad, "clone", "()Ljava/lang/Object;"⟩ ⟨"java/lang/Object", "clone", "()Ljava/lang/Object;"⟩).before a0 Z = true) (w6 : (Cond.castable ad "java/lang/Cloneable").before a0 Z = true)
    {a : Addr} {ty : FieldType} {n : Nat} {f : Nat → Value} (A : Ary Z h a ty n f) (E : Exa Z h a ad) (hfit : ∀ i, i < n → fits ty (f i) = true) {pc : Nat} {ls : Array Slot} {rest : List Value} (hsize : ls.size = c.maxLocals) (hd : decode c.code pc = .ok (.invokevirtual index, 3))
    (hf : 1 ≤ R.frames) {W cap : Nat} (hW : (rest.map fun v => v.category).sum = W) (hl : W + 14 ≤ R.locals) (hcap : n ≤ cap) (hc : ck + 1 ≤ R.cells) (hsl : sk + cap ≤ R.slots)
    (k : ∀ T' h' b, b = h.size → Stn p l e R s m args below meth c n0 T' h' (ck + 1) (sk + cap) → Ext h h' → Exa Z h' b ad → Ary Z h' b ty n f → Go p e below Post T' (mkF m (pc + 3) ls (.ref b :: rest))) : Go p e below Post T (mkF m pc ls (.ref a :: rest)) := by
  obtain ⟨eT, locs, N, Y⟩ := X
  obtain ⟨cl, A, r1, r2⟩ := A
  have FC : FitC Z cl := fitC_of A fun i hi v hv => by
    rw [r2 i (r1 ▸ hi)] at hv
    cases hv
    exact hfit i (r1 ▸ hi)
  obtain ⟨T', h', X', e', Ex, A', E', st⟩ := cloneA Y hx hZ hown w1 w2 w3 w4 w5 w6 eT A E FC (g := mkF m pc ls (.ref a :: rest)) rfl hsize rfl hd hf (W := W) (cap := cap) (by show 2 * 0 + _ ≤ _; omega) hl (by rw [r1]; exact hcap) hc hsl
  exact Go.st st (k T' h' _ rfl ⟨e', locs, N, X'⟩ Ex E' ⟨_, A', r1, r2⟩)
theorem goCast (X : Stn p l e R s m args below meth c n0 T h ck sk) (hx : p.tables.exec = Jvm.exec) (hZ : Z.Warmed39 s.vm) {own K : String} {index : Nat} (hown : s.vm.findClass own = some m.cls) (w : (Cond.classLink own index K).before a0 Z = true) {a : Addr} (F : Ins Z h a K true)
    {pc : Nat} {ls : Array Slot} {rest : List Value} (hd : decode c.code pc = .ok (.checkcast index, 3)) (k : ∀ T', Stn p l e R s m args below meth c n0 T' h ck sk → Go p e below Post T' (mkF m (pc + 3) ls (.ref a :: rest))) : Go p e below Post T (mkF m pc ls (.ref a :: rest)) := by
  obtain ⟨eT, locs, N, Y⟩ := X
  obtain ⟨T', X', e', st⟩ := castY Y hx hZ hown w eT F (g := mkF m pc ls (.ref a :: rest)) rfl rfl hd
  exact Go.st st (k T' ⟨e', locs, N, X'⟩)
theorem goLen (X : Stn p l e R s m args below meth c n0 T h ck sk) (hx : p.tables.exec = Jvm.exec) (hZ : Z.Warmed39 s.vm) {a : Addr} {ty : FieldType} {n : Nat} {f : Nat → Value} (A : Ary Z h a ty n f) {pc : Nat} {ls : Array Slot} {rest : List Value} (hd : decode c.code pc = .ok (.arraylength, 1))
    (k : Go p e below Post T (mkF m (pc + 1) ls (.int n.toInt32 :: rest))) : Go p e below Post T (mkF m pc ls (.ref a :: rest)) := by
  obtain ⟨eT, locs, N, Y⟩ := X
  obtain ⟨cl, A, r1, -⟩ := A
  subst r1
  exact Go.st (fun t q => Y.arraylength hx (by rw [eT]; exact A.1) (State.isArrayOf_alike hZ.alike A.2.1) (g := mkF m pc ls (.ref a :: rest)) rfl rfl hd t q) k
theorem goLdI (X : Stn p l e R s m args below meth c n0 T h ck sk) (hx : p.tables.exec = Jvm.exec) (hZ : Z.Warmed39 s.vm) {a : Addr} {n : Nat} {f : Nat → Int32} (A : Ary Z h a .int n (fun i => .int (f i))) {j : Int32} (hj : ¬ (j < 0 ∨ n ≤ j.toNatClampNeg)) {pc : Nat} {ls : Array Slot} {rest : List Value} (hd : decode c.code pc = .ok (.iaload, 1))
    (k : Go p e below Post T (mkF m (pc + 1) ls (.int (f j.toNatClampNeg) :: rest))) : Go p e below Post T (mkF m pc ls (.int j :: .ref a :: rest)) := by
  obtain ⟨eT, locs, N, Y⟩ := X
  obtain ⟨cl, A, r1, r2⟩ := A
  subst r1
  exact Go.st (fun t q => Y.iaload hx (j := j) (v := .int (f j.toNatClampNeg)) (by rw [eT]; exact A.1) (State.isArrayOf_alike hZ.alike A.2.1) A.2.2 hj (r2 _ (by omega)) (g := mkF m pc ls (.int j :: .ref a :: rest)) rfl rfl hd t q) k
theorem goLdJ (X : Stn p l e R s m args below meth c n0 T h ck sk) (hx : p.tables.exec = Jvm.exec) (hZ : Z.Warmed39 s.vm) {a : Addr} {n : Nat} {f : Nat → Int64} (A : Ary Z h a .long n (fun i => .long (f i))) {j : Int32} (hj : ¬ (j < 0 ∨ n ≤ j.toNatClampNeg)) {pc : Nat} {ls : Array Slot} {rest : List Value} (hd : decode c.code pc = .ok (.laload, 1))
    (k : Go p e below Post T (mkF m (pc + 1) ls (.long (f j.toNatClampNeg) :: rest))) : Go p e below Post T (mkF m pc ls (.int j :: .ref a :: rest)) := by
  obtain ⟨eT, locs, N, Y⟩ := X
  obtain ⟨cl, A, r1, r2⟩ := A
  subst r1
  exact Go.st (fun t q => Y.laload hx (j := j) (v := .long (f j.toNatClampNeg)) (by rw [eT]; exact A.1) (State.isArrayOf_alike hZ.alike A.2.1) A.2.2 hj (r2 _ (by omega)) (g := mkF m pc ls (.int j :: .ref a :: rest)) rfl rfl hd t q) k
theorem goStI (X : Stn p l e R s m args below meth c n0 T h ck sk) (hx : p.tables.exec = Jvm.exec) (hZ : Z.Warmed39 s.vm) {a : Addr} {n : Nat} {f : Nat → Int32} (A : Ary Z h a .int n (fun i => .int (f i))) {j x : Int32} (hj : ¬ (j < 0 ∨ n ≤ j.toNatClampNeg)) (ha : n0 ≤ a) {pc : Nat} {ls : Array Slot} {rest : List Value} (hd : decode c.code pc = .ok (.iastore, 1))
    (k : ∀ T' h', Stn p l e R s m args below meth c n0 T' h' ck sk → Wr h h' a j.toNatClampNeg (.int x) → Ary Z h' a .int n (fun i => .int (if i = j.toNatClampNeg then x else f i)) → Go p e below Post T' (mkF m (pc + 1) ls rest)) : Go p e below Post T (mkF m pc ls (.int x :: .int j :: .ref a :: rest)) := by
  obtain ⟨eT, locs, N, Y⟩ := X
  have A0 := A
  obtain ⟨cl, A, r1, r2⟩ := A
  subst r1
  obtain ⟨T', h', X', e', W, st⟩ := stI Y hx hZ eT A hj (g := mkF m pc ls (.int x :: .int j :: .ref a :: rest)) rfl rfl hd
  exact Go.st st (k T' h' ⟨e', _, Fr.snoc X' N ha, X'⟩ W ((A0.set W).congr fun i _ => by split <;> rfl))
theorem goStJ (X : Stn p l e R s m args below meth c n0 T h ck sk) (hx : p.tables.exec = Jvm.exec) (hZ : Z.Warmed39 s.vm) {a : Addr} {n : Nat} {f : Nat → Int64} (A : Ary Z h a .long n (fun i => .long (f i))) {j : Int32} {x : Int64} (hj : ¬ (j < 0 ∨ n ≤ j.toNatClampNeg)) (ha : n0 ≤ a) {pc : Nat} {ls : Array Slot} {rest : List Value} (hd : decode c.code pc = .ok (.lastore, 1))
    (k : ∀ T' h', Stn p l e R s m args below meth c n0 T' h' ck sk → Wr h h' a j.toNatClampNeg (.long x) → Ary Z h' a .long n (fun i => .long (if i = j.toNatClampNeg then x else f i)) → Go p e below Post T' (mkF m (pc + 1) ls rest)) : Go p e below Post T (mkF m pc ls (.long x :: .int j :: .ref a :: rest)) := by
  obtain ⟨eT, locs, N, Y⟩ := X
  have A0 := A
  obtain ⟨cl, A, r1, r2⟩ := A
  subst r1
  obtain ⟨T', h', X', e', W, st⟩ := stJ Y hx hZ eT A hj (g := mkF m pc ls (.long x :: .int j :: .ref a :: rest)) rfl rfl hd
  exact Go.st st (k T' h' ⟨e', _, Fr.snoc X' N ha, X'⟩ W ((A0.set W).congr fun i _ => by split <;> rfl))
/-! calls -/
theorem goStatic (X : Stn p l e R s m args below meth c n0 T h ck sk) (hx : p.tables.exec = Jvm.exec) (hZ : Z.Warmed39 s.vm) {own : String} {index : Nat} {y : MethodName} {bytes : ByteArray} {maxL : Nat} {ret : Option FieldType} {rm : Room} {as' : Array Value} {Q : Option Value → Heap → Prop}
    (hown : s.vm.findClass own = some m.cls) (w1 : (Cond.methodLink own index y).before a0 Z = true) (w2 : (Cond.static y).before a0 Z = true) (w3 : (Cond.initialized y.cls).before a0 Z = true) (w4 : (Cond.code y bytes maxL ret).before a0 Z = true)
    (hy : y.cls ≠ "java/lang/invoke/MethodHandle" ∧ y.cls ≠ "java/lang/invoke/VarHandle") (hM : Con l y bytes maxL ret rm [] Z n0 as' h Q) (W : Nat) (hf : rm.frames + 1 ≤ R.frames) (hl : W + (maxL + 11) + rm.locals ≤ R.locals)
    {pc : Nat} {ls : Array Slot} {stk : List Value} (hsize : ls.size = c.maxLocals) (argsL rest : List Value) (hlen : ∀ sig, parseMethodDescriptor y.desc = some sig → argsL.length = sig.parameters.length) (has : argsL.toArray = as') (hstk : stk = argsL.reverse ++ rest) (hW : (rest.map fun v => v.category).sum = W)
    (hd : decode c.code pc = .ok (.invokestatic index, 3)) (hc : ck + rm.cells ≤ R.cells) (hs : sk + rm.slots ≤ R.slots)
    (k : ∀ v T' h', Stn p l e R s m args below meth c n0 T' h' (ck + rm.cells) (sk + rm.slots) → Q v h' → Go p e below Post T' (mkF m (pc + 3) ls (v.toList ++ rest))) : Go p e below Post T (mkF m pc ls stk) := by
  obtain ⟨eT, locs, N, Y⟩ := X
  obtain ⟨v, _, ⟨T', L', k', n'⟩, -, X', ⟨Lc, ⟨hN, hQ⟩, l', y', z'⟩, st⟩ := Jvm.LawKit.callS Y hx (y := y) hown (mvT hZ w1) (mvT hZ w2) (mvT hZ w3) (mvT hZ w4) hy (backOf (W := W) (Q := fun v h' L => Fr n0 L ∧ Q v h') hM hZ w4 w3 hf hl) (g := mkF m pc ls stk) rfl hsize (argsL := argsL) (rest := rest) hlen hstk (by show 2 * 0 + _ ≤ _; omega) hd (fun _ _ => ⟨has, eT, hc, hs⟩)
  dsimp only [Pt.U, Pt.locs, Pt.cells, Pt.slots] at X' l' y' z' st hQ
  subst l' y' z'
  exact Go.st st (k v T' T'.heap ⟨rfl, _, Fr.app N hN, X'⟩ hQ)
theorem goCtor (X : Stn p l e R s m args below meth c n0 T h ck sk) (hx : p.tables.exec = Jvm.exec) (hZ : Z.Warmed39 s.vm) {own : String} {index : Nat} {y : MethodName} {bytes : ByteArray} {maxL : Nat} {rm : Room} {as' : Array Value} {Q : Option Value → Heap → Prop} (hy1 : y.name = "<init>")
    (hown : s.vm.findClass own = some m.cls) (w1 : (Cond.methodLink own index y).before a0 Z = true) (w2 : (Cond.instanceMethod y).before a0 Z = true) (w3 : (Cond.initialized y.cls).before a0 Z = true) (w4 : (Cond.code y bytes maxL none).before a0 Z = true)
    (hy : y.cls ≠ "java/lang/invoke/MethodHandle" ∧ y.cls ≠ "java/lang/invoke/VarHandle") (hM : Con l y bytes maxL none rm [] Z n0 as' h Q) (W : Nat) (hf : rm.frames + 1 ≤ R.frames) (hl : W + (maxL + 11) + rm.locals ≤ R.locals)
    {pc : Nat} {ls : Array Slot} {stk : List Value} (hsize : ls.size = c.maxLocals) (a : Addr) (argsL rest : List Value) (hlen : ∀ sig, parseMethodDescriptor y.desc = some sig → argsL.length = sig.parameters.length) (has : (.ref a :: argsL).toArray = as') (hstk : stk = argsL.reverse ++ .ref a :: rest) (hW : (rest.map fun v => v.category).sum = W)
    (hd : decode c.code pc = .ok (.invokespecial index, 3)) (hc : ck + rm.cells ≤ R.cells) (hs : sk + rm.slots ≤ R.slots)
    (k : ∀ v T' h', Stn p l e R s m args below meth c n0 T' h' (ck + rm.cells) (sk + rm.slots) → Q v h' → Go p e below Post T' (mkF m (pc + 3) ls (v.toList ++ rest))) : Go p e below Post T (mkF m pc ls stk) := by
  obtain ⟨eT, locs, N, Y⟩ := X
  obtain ⟨v, _, ⟨T', L', k', n'⟩, -, X', ⟨Lc, ⟨hN, hQ⟩, l', y', z'⟩, st⟩ := Y.specialBack hx (y := y) hy1 hown (mvT hZ w1) (mvT hZ w2) (mvT hZ w4) hy (backOf (W := W) (Q := fun v h' L => Fr n0 L ∧ Q v h') hM hZ w4 w3 hf hl) (g := mkF m pc ls stk) rfl hsize (Steps.refl _) (a := a) (argsL := argsL) (rest := rest) hlen hstk (by show 2 * 0 + _ ≤ _; omega) hd (fun _ _ => ⟨has, eT, hc, hs⟩)
  dsimp only [Pt.U, Pt.locs, Pt.cells, Pt.slots] at X' l' y' z' st hQ
  subst l' y' z'
  exact Go.st (fun t q => st.trans q) (k v T' T'.heap ⟨rfl, _, Fr.app N hN, X'⟩ hQ)
theorem goVirt (X : Stn p l e R s m args below meth c n0 T h ck sk) (hx : p.tables.exec = Jvm.exec) (hZ : Z.Warmed39 s.vm) {own C : String} {index : Nat} {y z : MethodName} {bytes : ByteArray} {maxL : Nat} {ret : Option FieldType} {rm : Room} {as' : Array Value} {Q : Option Value → Heap → Prop}
    (hown : s.vm.findClass own = some m.cls) (w1 : (Cond.methodLink own index y).before a0 Z = true) (w2 : (Cond.declares y).before a0 Z = true) (nf : NotFace s y) (w5 : (Cond.selects C y z).before a0 Z = true) (w6 : (Cond.instanceMethod z).before a0 Z = true) (w3 : (Cond.initialized z.cls).before a0 Z = true) (w4 : (Cond.code z bytes maxL ret).before a0 Z = true)
    (hy : y.cls ≠ "java/lang/invoke/MethodHandle" ∧ y.cls ≠ "java/lang/invoke/VarHandle") {a : Addr} (E : Exa Z h a C) (hM : Con l z bytes maxL ret rm [] Z n0 as' h Q) (W : Nat) (hf : rm.frames + 1 ≤ R.frames) (hl : W + (maxL + 11) + rm.locals ≤ R.locals)
    {pc : Nat} {ls : Array Slot} {stk : List Value} (hsize : ls.size = c.maxLocals) (argsL rest : List Value) (hlen : ∀ sig, parseMethodDescriptor y.desc = some sig → argsL.length = sig.parameters.length) (has : (.ref a :: argsL).toArray = as') (hstk : stk = argsL.reverse ++ .ref a :: rest) (hW : (rest.map fun v => v.category).sum = W)
    (hd : decode c.code pc = .ok (.invokevirtual index, 3)) (hc : ck + rm.cells ≤ R.cells) (hs : sk + rm.slots ≤ R.slots)
    (k : ∀ v T' h', Stn p l e R s m args below meth c n0 T' h' (ck + rm.cells) (sk + rm.slots) → Q v h' → Go p e below Post T' (mkF m (pc + 3) ls (v.toList ++ rest))) : Go p e below Post T (mkF m pc ls stk) := by
  obtain ⟨eT, locs, N, Y⟩ := X
  obtain ⟨cq, kq, q1, q2, q3⟩ := isOf hZ eT E
  obtain ⟨v, _, ⟨T', L', k', n'⟩, -, X', ⟨Lc, ⟨hN, hQ⟩, l', y', z'⟩, st⟩ := Y.virtualBack hx (y := y) (z := z) hown (mvT hZ w1) (mvT hZ w2) nf (mvT hZ w5) (mvT hZ w6) hy (backOf (W := W) (Q := fun v h' L => Fr n0 L ∧ Q v h') hM hZ w4 w3 hf hl) q1 q3 (g := mkF m pc ls stk) rfl hsize (Steps.refl _) (argsL := argsL) (rest := rest) hlen hstk (by show 2 * 0 + _ ≤ _; omega) hd (fun _ _ => ⟨has, eT, hc, hs⟩)
  dsimp only [Pt.U, Pt.locs, Pt.cells, Pt.slots] at X' l' y' z' st hQ
  subst l' y' z'
  exact Go.st (fun t q => st.trans q) (k v T' T'.heap ⟨rfl, _, Fr.app N hN, X'⟩ hQ)
theorem goVirtS (X : Stn p l e R s m args below meth c n0 T h ck sk) (hx : p.tables.exec = Jvm.exec) (hZ : Z.Warmed39 s.vm) {own : String} {index : Nat} {y : MethodName} {bytes : ByteArray} {maxL : Nat} {ret : Option FieldType} {rm : Room} {as' : Array Value} {Q : Option Value → Heap → Prop}
    (hown : s.vm.findClass own = some m.cls) (w1 : (Cond.methodLink own index y).before a0 Z = true) (w2 : (Cond.declares y).before a0 Z = true) (w5 : (Cond.selects y.cls y y).before a0 Z = true) (w6 : (Cond.instanceMethod y).before a0 Z = true) (w3 : (Cond.initialized y.cls).before a0 Z = true) (w4 : (Cond.code y bytes maxL ret).before a0 Z = true)
    (hy : y.cls ≠ "java/lang/invoke/MethodHandle" ∧ y.cls ≠ "java/lang/invoke/VarHandle") {a : Addr} (E : Exa Z h a y.cls) (hM : Con l y bytes maxL ret rm [] Z n0 as' h Q) (W : Nat) (hf : rm.frames + 1 ≤ R.frames) (hl : W + (maxL + 11) + rm.locals ≤ R.locals)
    {pc : Nat} {ls : Array Slot} {stk : List Value} (hsize : ls.size = c.maxLocals) (argsL rest : List Value) (hlen : ∀ sig, parseMethodDescriptor y.desc = some sig → argsL.length = sig.parameters.length) (has : (.ref a :: argsL).toArray = as') (hstk : stk = argsL.reverse ++ .ref a :: rest) (hW : (rest.map fun v => v.category).sum = W)
    (hd : decode c.code pc = .ok (.invokevirtual index, 3)) (hc : ck + rm.cells ≤ R.cells) (hs : sk + rm.slots ≤ R.slots)
    (k : ∀ v T' h', Stn p l e R s m args below meth c n0 T' h' (ck + rm.cells) (sk + rm.slots) → Q v h' → Go p e below Post T' (mkF m (pc + 3) ls (v.toList ++ rest))) : Go p e below Post T (mkF m pc ls stk) :=
  goVirt X hx hZ hown w1 w2 (notFace_of_selects (args := #[]) (mvT hZ w5)) w5 w6 w3 w4 hy E hM W hf hl hsize argsL rest hlen has hstk hW hd hc hs k
theorem goPriv (X : Stn p l e R s m args below meth c n0 T h ck sk) (hx : p.tables.exec = Jvm.exec) (hZ : Z.Warmed39 s.vm) {own C : String} {index : Nat} {y : MethodName} {bytes : ByteArray} {maxL : Nat} {ret : Option FieldType} {rm : Room} {as' : Array Value} {Q : Option Value → Heap → Prop}
    (hown : s.vm.findClass own = some m.cls) (w1 : (Cond.methodLink own index y).before a0 Z = true) (w6 : (Cond.instanceMethod y).before a0 Z = true) {kk : Nat} (wi : (Cond.instantiable y.cls kk).before a0 Z = true) (w7 : (Cond.privateMethod y).before a0 Z = true) (w3 : (Cond.initialized y.cls).before a0 Z = true) (w4 : (Cond.code y bytes maxL ret).before a0 Z = true)
    (hy : y.cls ≠ "java/lang/invoke/MethodHandle" ∧ y.cls ≠ "java/lang/invoke/VarHandle") {a : Addr} (E : Exa Z h a C) (hM : Con l y bytes maxL ret rm [] Z n0 as' h Q) (W : Nat) (hf : rm.frames + 1 ≤ R.frames) (hl : W + (maxL + 11) + rm.locals ≤ R.locals)
    {pc : Nat} {ls : Array Slot} {stk : List Value} (hsize : ls.size = c.maxLocals) (argsL rest : List Value) (hlen : ∀ sig, parseMethodDescriptor y.desc = some sig → argsL.length = sig.parameters.length) (has : (.ref a :: argsL).toArray = as') (hstk : stk = argsL.reverse ++ .ref a :: rest) (hW : (rest.map fun v => v.category).sum = W)
    (hd : decode c.code pc = .ok (.invokevirtual index, 3)) (hc : ck + rm.cells ≤ R.cells) (hs : sk + rm.slots ≤ R.slots)
    (k : ∀ v T' h', Stn p l e R s m args below meth c n0 T' h' (ck + rm.cells) (sk + rm.slots) → Q v h' → Go p e below Post T' (mkF m (pc + 3) ls (v.toList ++ rest))) : Go p e below Post T (mkF m pc ls stk) := by
  obtain ⟨eT, locs, N, Y⟩ := X
  obtain ⟨cq, q1, q2⟩ := E.cell
  have hi : (Cond.instantiable y.cls kk).before args s = true := mvT hZ wi
  obtain ⟨ci, ki, i1, i2, -, i4, -⟩ := Cond.instantiable_spec hi
  have i7 : ki.isInterface = false := by
    cases q : ki.isInterface
    · rfl
    · rw [q] at i4; cases i4
  have hsel : (Cond.selects y.cls y y).before args s = true := selects_self_of_private i1 i2 i7 (Cond.privateMethod_at (mvP hZ w7 (args := #[]))) (mvT hZ w6) hy
  obtain ⟨v, _, ⟨T', L', k', n'⟩, -, X', ⟨Lc, ⟨hN, hQ⟩, l', y', z'⟩, st⟩ := Y.privateBack hx (y := y) hown (mvT hZ w1) (mvT hZ w6) hsel (Cond.privateMethod_at (mvP hZ w7 (args := #[]))) (mvT hZ w4) hy (backOf (W := W) (Q := fun v h' L => Fr n0 L ∧ Q v h') hM hZ w4 w3 hf hl) (g := mkF m pc ls stk) rfl hsize (Steps.refl _) (a := a) (by rw [eT]; exact q1) q2 (argsL := argsL) (rest := rest) hlen hstk (by show 2 * 0 + _ ≤ _; omega) hd (fun _ _ => ⟨has, eT, hc, hs⟩)
  dsimp only [Pt.U, Pt.locs, Pt.cells, Pt.slots] at X' l' y' z' st hQ
  subst l' y' z'
  exact Go.st (fun t q => st.trans q) (k v T' T'.heap ⟨rfl, _, Fr.app N hN, X'⟩ hQ)
theorem own_i32_rem (x y : Int32) : x - (x / y) * y = x % y := by
  apply Int32.toInt_inj.mp
  rw [Int32.toInt_mod, Int32.toInt_sub, Int32.toInt_mul, Int32.toInt_div]
  have hb : x.toInt.tmod y.toInt = (x.toInt.tmod y.toInt).bmod (2 ^ 32) := by
    rw [← Int32.toInt_mod]
    exact (Int32.toInt_bmod _).symm
  rw [hb, Int.tmod_def]
  simp [Int.mul_comm]
theorem own_irem {T target : State} (X : At T m c below) (hx : p.tables.exec = Jvm.exec) {pc : Nat} {ls : Array Slot} {x y : Int32} {rest : List Value} (hd : decode c.code pc = .ok (.irem, 1)) (hy : y ≠ 0)
    (hr : Steps p.tables e below (T.setTop (mkF m (pc + 1) ls (.int (x % y) :: rest))) target) : Steps p.tables e below (T.setTop (mkF m pc ls (.int y :: .int x :: rest))) target :=
  XS.irem X hx (g := mkF m pc ls (.int y :: .int x :: rest)) rfl hd rfl hy (by rw [own_i32_rem]; exact hr)
end OwnLayer

/-- the older entry is one, and it is older -/
def own_old (w q : Int32) : Prop := ¬ w < 0 ∧ w < q
def own_is (r : Int32) (P : Prop) : Prop := (r = 1 ∧ P) ∨ (r = 0 ∧ ¬ P)
theorem own_is_eq {r r' : Int32} {P : Prop} (h : own_is r P) (h' : own_is r' P) : r = r' := by
  rcases h with ⟨q1, q2⟩ | ⟨q1, q2⟩ <;> rcases h' with ⟨q3, q4⟩ | ⟨q3, q4⟩
  · rw [q1, q3]
  · exact absurd q2 q4
  · exact absurd q4 q2
  · rw [q1, q3]
theorem own_no {r : Int32} {P : Prop} (h : own_is r P) (n : ¬ P) : r = 0 := h.elim (fun q => absurd q.2 n) (·.1)
theorem own_lsub (u w : Int32) : (u.toInt64 - w.toInt64).toInt = u.toInt - w.toInt := by
  have h1 := u.toInt_lt; have h2 := u.le_toInt; have h3 := w.toInt_lt; have h4 := w.le_toInt
  rw [Jvm.Kit.i64_sub (by rw [Jvm.Kit.i64_of_i32, Jvm.Kit.i64_of_i32]; omega) (by rw [Jvm.Kit.i64_of_i32, Jvm.Kit.i64_of_i32]; omega), Jvm.Kit.i64_of_i32, Jvm.Kit.i64_of_i32]

theorem d2_0 : decode jdk_30_method_1_code 0 = .ok (.aload_n 0, 1) := by decide +kernel
theorem d2_1 : decode jdk_30_method_1_code 1 = .ok (.invokespecial 1, 3) := by decide +kernel
theorem d2_4 : decode jdk_30_method_1_code 4 = .ok (.return_, 1) := by decide +kernel
theorem pn_2 : plainFor (⟨"java/lang/Record", "<init>", "()V"⟩ : MethodName) = true := plainFor_of_name (by first | (simp [plainName, overriddenIn]; done) | decide +kernel)
theorem ef_rm2 (m : MethodId) (x0 : Addr) : entryFrame m #[(.ref x0)] 1 = mkF m 0 #[.val (.ref x0)] [] := by first | (simp [entryFrame, mkF, argsToLocals, Value.category]; done) | rfl
def Q2 (Z : State) (n0 : Nat) (h0 : Heap) (a : Addr) (v : Option Value) (h : Heap) : Prop := v = none ∧ h = h0
set_option maxRecDepth 65536 in
set_option maxHeartbeats 40000000 in
theorem rm2 (l : Launch) (Z : State) (a0 : Array Value) (hw : ∀ d ∈ tables_1, d.before a0 Z = true) (ws : List Jvm.Cond) (n0 : Nat) (h0 : Heap) (a : Addr) (sz0 : n0 ≤ h0.size) :
    Con l (⟨"java/lang/Record", "<init>", "()V"⟩ : MethodName) jdk_30_method_1_code 1 none ({ frames := 1, cells := 0, slots := 0, locals := 12 } : Room) ws Z n0 #[(.ref a)] h0 (Q2 Z n0 h0 a) := by
  refine Con.body pn_2 ?_
  intro p e s m below meth c s₁ hx hby hml hown hnm hret hlk hZ X0
  have hown : s.vm.findClass "java/lang/Record" = some m.cls := hown
  have hnm : meth.name = "<init>" := hnm
  rw [show entryFrame m #[(.ref a)] 1 = mkF m 0 #[.val (.ref a)] [] from ef_rm2 m a]
  show Go p e below (PostW s n0 (0 : Nat) (0 : Nat) (Q2 Z n0 h0 a)) s₁ (mkF m 0 #[.val (.ref a)] [])
  refine Go.st (T' := s₁) (g' := (mkF m 1 #[.val (.ref a)] [(.ref a)])) (fun t_ k_ => XS.aloadN X0.here hx rfl (hb hby d2_0) rfl rfl k_) ?_
  refine goInit X0 hx hZ hown (hw _ (List.mem_of_getElem? (i := 11) rfl)) (hw _ (List.mem_of_getElem? (i := 12) rfl)) (hw _ (List.mem_of_getElem? (i := 13) rfl)) (by rw [hml]; rfl) (hb hby d2_1) (by decide) (W := 0) (Nat.le_of_eq rfl) (by decide) fun T1 X1 => ?_
  show Go p e below _ T1 (mkF m 4 #[.val (.ref a)] [])
  refine goRetV X1 hx hlk hret (hb hby d2_4) (by decide) (by decide) ?_
  refine ⟨rfl, rfl⟩
theorem d1_0 : decode prog_30_method_1_code 0 = .ok (.aload_n 0, 1) := by decide +kernel
theorem d1_1 : decode prog_30_method_1_code 1 = .ok (.invokespecial 3, 3) := by decide +kernel
theorem d1_4 : decode prog_30_method_1_code 4 = .ok (.aload_n 0, 1) := by decide +kernel
theorem d1_5 : decode prog_30_method_1_code 5 = .ok (.iload_n 1, 1) := by decide +kernel
theorem d1_6 : decode prog_30_method_1_code 6 = .ok (.putfield 9, 3) := by decide +kernel
theorem d1_9 : decode prog_30_method_1_code 9 = .ok (.aload_n 0, 1) := by decide +kernel
theorem d1_10 : decode prog_30_method_1_code 10 = .ok (.lload_n 2, 1) := by decide +kernel
theorem d1_11 : decode prog_30_method_1_code 11 = .ok (.putfield 15, 3) := by decide +kernel
theorem d1_14 : decode prog_30_method_1_code 14 = .ok (.aload_n 0, 1) := by decide +kernel
theorem d1_15 : decode prog_30_method_1_code 15 = .ok (.iload 4, 2) := by decide +kernel
theorem d1_17 : decode prog_30_method_1_code 17 = .ok (.putfield 19, 3) := by decide +kernel
theorem d1_20 : decode prog_30_method_1_code 20 = .ok (.aload_n 0, 1) := by decide +kernel
theorem d1_21 : decode prog_30_method_1_code 21 = .ok (.iload 5, 2) := by decide +kernel
theorem d1_23 : decode prog_30_method_1_code 23 = .ok (.putfield 22, 3) := by decide +kernel
theorem d1_26 : decode prog_30_method_1_code 26 = .ok (.return_, 1) := by decide +kernel
theorem pn_1 : plainFor (⟨"com/example/keelstore/keelstore/layout/IndexLayout$Entry", "<init>", "(IJII)V"⟩ : MethodName) = true := plainFor_of_name (by first | (simp [plainName, overriddenIn]; done) | decide +kernel)
theorem pd_0f51a560 : parseMethodDescriptor "()V" = some ⟨[], none⟩ := by decide +kernel
theorem ef_rm1 (m : MethodId) (x0 : Addr) (x1 : Int32) (x2 : Int64) (x3 : Int32) (x4 : Int32) : entryFrame m #[(.ref x0), (.int x1), (.long x2), (.int x3), (.int x4)] 6 = mkF m 0 #[.val (.ref x0), .val (.int x1), .val (.long x2), .second, .val (.int x3), .val (.int x4)] [] := by first | (simp [entryFrame, mkF, argsToLocals, Value.category]; done) | rfl
def Q1 (Z : State) (n0 : Nat) (h0 : Heap) (a : Addr) (p1 : Int32) (p2 : Int64) (p3 : Int32) (p4 : Int32) (u1 : Value) (u2 : Value) (u3 : Value) (u4 : Value) (v : Option Value) (h : Heap) : Prop := v = none ∧ Keep h0 h [a] ∧ Exa Z h a "com/example/keelstore/keelstore/layout/IndexLayout$Entry" ∧ Fld Z h a "com/example/keelstore/keelstore/layout/IndexLayout$Entry" "previousEntry" "I" (.int p4)
set_option maxRecDepth 65536 in
set_option maxHeartbeats 40000000 in
theorem rm1 (l : Launch) (Z : State) (a0 : Array Value) (hw : ∀ d ∈ tables_1, d.before a0 Z = true) (ws : List Jvm.Cond) (n0 : Nat) (h0 : Heap) (a : Addr) (p1 : Int32) (p2 : Int64) (p3 : Int32) (p4 : Int32) (u1 : Value) (u2 : Value) (u3 : Value) (u4 : Value) (sz0 : n0 ≤ h0.size) (g0 : Exa Z h0 a "com/example/keelstore/keelstore/layout/IndexLayout$Entry") (g1 : Fld Z h0 a "com/example/keelstore/keelstore/layout/IndexLayout$Entry" "keyHash" "I" u1) (g2 : Fld Z h0 a "com/example/keelstore/keelstore/layout/IndexLayout$Entry" "physicalOffset" "J" u2) (g3 : Fld Z h0 a "com/example/keelstore/keelstore/layout/IndexLayout$Entry" "seconds" "I" u3) (g4 : Fld Z h0 a "com/example/keelstore/keelstore/layout/IndexLayout$Entry" "previousEntry" "I" u4) (g5 : n0 ≤ a) :
    Con l (⟨"com/example/keelstore/keelstore/layout/IndexLayout$Entry", "<init>", "(IJII)V"⟩ : MethodName) prog_30_method_1_code 6 none ({ frames := 2, cells := 0, slots := 0, locals := 40 } : Room) ws Z n0 #[(.ref a), (.int p1), (.long p2), (.int p3), (.int p4)] h0 (Q1 Z n0 h0 a p1 p2 p3 p4 u1 u2 u3 u4) := by
  refine Con.body pn_1 ?_
  intro p e s m below meth c s₁ hx hby hml hown hnm hret hlk hZ X0
  have hown : s.vm.findClass "com/example/keelstore/keelstore/layout/IndexLayout$Entry" = some m.cls := hown
  have hnm : meth.name = "<init>" := hnm
  have K0 : Keep h0 h0 [a] := Keep.refl _ _
  rw [show entryFrame m #[(.ref a), (.int p1), (.long p2), (.int p3), (.int p4)] 6 = mkF m 0 #[.val (.ref a), .val (.int p1), .val (.long p2), .second, .val (.int p3), .val (.int p4)] [] from ef_rm1 m a p1 p2 p3 p4]
  show Go p e below (PostW s n0 (0 : Nat) (0 : Nat) (Q1 Z n0 h0 a p1 p2 p3 p4 u1 u2 u3 u4)) s₁ (mkF m 0 #[.val (.ref a), .val (.int p1), .val (.long p2), .second, .val (.int p3), .val (.int p4)] [])
  refine Go.st (T' := s₁) (g' := (mkF m 1 #[.val (.ref a), .val (.int p1), .val (.long p2), .second, .val (.int p3), .val (.int p4)] [(.ref a)])) (fun t_ k_ => XS.aloadN X0.here hx rfl (hb hby d1_0) rfl rfl k_) ?_
  refine goCtor X0 hx hZ (y := (⟨"java/lang/Record", "<init>", "()V"⟩ : MethodName)) rfl hown (hw _ (List.mem_of_getElem? (i := 6) rfl)) (hw _ (List.mem_of_getElem? (i := 7) rfl)) (hw _ (List.mem_of_getElem? (i := 9) rfl)) (hw _ (List.mem_of_getElem? (i := 10) rfl)) (by decide) (rm2 l Z a0 hw [] n0 h0 a sz0) 0 (by decide) (by decide) (by rw [hml]; rfl) a [] [] (lenOf pd_0f51a560 rfl) rfl rfl rfl (hb hby d1_1) (by decide) (by decide) fun v1 T1 h1 X1 hq1 => ?_
  obtain ⟨rfl, eh1⟩ := hq1
  rw [eh1] at X1
  show Go p e below _ T1 (mkF m 4 #[.val (.ref a), .val (.int p1), .val (.long p2), .second, .val (.int p3), .val (.int p4)] [])
  refine Go.st (T' := T1) (g' := (mkF m 5 #[.val (.ref a), .val (.int p1), .val (.long p2), .second, .val (.int p3), .val (.int p4)] [(.ref a)])) (fun t_ k_ => XS.aloadN X1.here hx rfl (hb hby d1_4) rfl rfl k_) ?_
  refine Go.st (T' := T1) (g' := (mkF m 6 #[.val (.ref a), .val (.int p1), .val (.long p2), .second, .val (.int p3), .val (.int p4)] [(.int p1), (.ref a)])) (fun t_ k_ => XS.iloadN X1.here hx rfl (hb hby d1_5) rfl k_) ?_
  refine goPut X1 hx hZ hown (host := "") (Or.inl (hw _ (List.mem_of_getElem? (i := 14) rfl))) Via.refl g1 g0 (Or.inr ⟨(hw _ (List.mem_of_getElem? (i := 15) rfl)), rfl, hnm⟩) (hw _ (List.mem_of_getElem? (i := 1) rfl)) (ty := .int) (by decide) rfl rfl g5 (hb hby d1_6) fun T2 h2 X2 W2 => ?_
  have Fw2 := g1.same W2
  have f2_0 : Exa Z h2 a "com/example/keelstore/keelstore/layout/IndexLayout$Entry" := g0.wr W2
  have f2_1 : Fld Z h2 a "com/example/keelstore/keelstore/layout/IndexLayout$Entry" "physicalOffset" "J" u2 := g2.other W2 (Or.inr (slot_ne (Or.inr (hw _ (List.mem_of_getElem? (i := 17) rfl))) (Or.inr (hw _ (List.mem_of_getElem? (i := 15) rfl))) (by decide) (t := .long) (t' := .int) (by decide) (by decide)))
  have f2_2 : Fld Z h2 a "com/example/keelstore/keelstore/layout/IndexLayout$Entry" "seconds" "I" u3 := g3.other W2 (Or.inr (slot_ne (Or.inr (hw _ (List.mem_of_getElem? (i := 19) rfl))) (Or.inr (hw _ (List.mem_of_getElem? (i := 15) rfl))) (by decide) (t := .int) (t' := .int) (by decide) (by decide)))
  have f2_3 : Fld Z h2 a "com/example/keelstore/keelstore/layout/IndexLayout$Entry" "previousEntry" "I" u4 := g4.other W2 (Or.inr (slot_ne (Or.inr (hw _ (List.mem_of_getElem? (i := 21) rfl))) (Or.inr (hw _ (List.mem_of_getElem? (i := 15) rfl))) (by decide) (t := .int) (t' := .int) (by decide) (by decide)))
  have sz2 : n0 ≤ h2.size := Nat.le_trans sz0 (Keep.of_wr W2).1
  have K2 : Keep h0 h2 [a] := K0.wr W2 (Or.inl (List.mem_of_getElem? (i := 0) rfl))
  show Go p e below _ T2 (mkF m 9 #[.val (.ref a), .val (.int p1), .val (.long p2), .second, .val (.int p3), .val (.int p4)] [])
  refine Go.st (T' := T2) (g' := (mkF m 10 #[.val (.ref a), .val (.int p1), .val (.long p2), .second, .val (.int p3), .val (.int p4)] [(.ref a)])) (fun t_ k_ => XS.aloadN X2.here hx rfl (hb hby d1_9) rfl rfl k_) ?_
  refine Go.st (T' := T2) (g' := (mkF m 11 #[.val (.ref a), .val (.int p1), .val (.long p2), .second, .val (.int p3), .val (.int p4)] [(.long p2), (.ref a)])) (fun t_ k_ => XS.lloadN X2.here hx rfl (hb hby d1_10) rfl k_) ?_
  refine goPut X2 hx hZ hown (host := "") (Or.inl (hw _ (List.mem_of_getElem? (i := 16) rfl))) Via.refl f2_1 f2_0 (Or.inr ⟨(hw _ (List.mem_of_getElem? (i := 17) rfl)), rfl, hnm⟩) (hw _ (List.mem_of_getElem? (i := 1) rfl)) (ty := .long) (by decide) rfl rfl g5 (hb hby d1_11) fun T3 h3 X3 W3 => ?_
  have Fw3 := f2_1.same W3
  have f3_0 : Exa Z h3 a "com/example/keelstore/keelstore/layout/IndexLayout$Entry" := f2_0.wr W3
  have f3_1 : Fld Z h3 a "com/example/keelstore/keelstore/layout/IndexLayout$Entry" "seconds" "I" u3 := f2_2.other W3 (Or.inr (slot_ne (Or.inr (hw _ (List.mem_of_getElem? (i := 19) rfl))) (Or.inr (hw _ (List.mem_of_getElem? (i := 17) rfl))) (by decide) (t := .int) (t' := .long) (by decide) (by decide)))
  have f3_2 : Fld Z h3 a "com/example/keelstore/keelstore/layout/IndexLayout$Entry" "previousEntry" "I" u4 := f2_3.other W3 (Or.inr (slot_ne (Or.inr (hw _ (List.mem_of_getElem? (i := 21) rfl))) (Or.inr (hw _ (List.mem_of_getElem? (i := 17) rfl))) (by decide) (t := .int) (t' := .long) (by decide) (by decide)))
  have f3_4 : Fld Z h3 a "com/example/keelstore/keelstore/layout/IndexLayout$Entry" "keyHash" "I" (.int p1) := Fw2.other W3 (Or.inr (slot_ne (Or.inr (hw _ (List.mem_of_getElem? (i := 15) rfl))) (Or.inr (hw _ (List.mem_of_getElem? (i := 17) rfl))) (by decide) (t := .int) (t' := .long) (by decide) (by decide)))
  have sz3 : n0 ≤ h3.size := Nat.le_trans sz2 (Keep.of_wr W3).1
  have K3 : Keep h0 h3 [a] := K2.wr W3 (Or.inl (List.mem_of_getElem? (i := 0) rfl))
  show Go p e below _ T3 (mkF m 14 #[.val (.ref a), .val (.int p1), .val (.long p2), .second, .val (.int p3), .val (.int p4)] [])
  refine Go.st (T' := T3) (g' := (mkF m 15 #[.val (.ref a), .val (.int p1), .val (.long p2), .second, .val (.int p3), .val (.int p4)] [(.ref a)])) (fun t_ k_ => XS.aloadN X3.here hx rfl (hb hby d1_14) rfl rfl k_) ?_
  refine Go.st (T' := T3) (g' := (mkF m 17 #[.val (.ref a), .val (.int p1), .val (.long p2), .second, .val (.int p3), .val (.int p4)] [(.int p3), (.ref a)])) (fun t_ k_ => XS.iload X3.here hx rfl (hb hby d1_15) rfl k_) ?_
  refine goPut X3 hx hZ hown (host := "") (Or.inl (hw _ (List.mem_of_getElem? (i := 18) rfl))) Via.refl f3_1 f3_0 (Or.inr ⟨(hw _ (List.mem_of_getElem? (i := 19) rfl)), rfl, hnm⟩) (hw _ (List.mem_of_getElem? (i := 1) rfl)) (ty := .int) (by decide) rfl rfl g5 (hb hby d1_17) fun T4 h4 X4 W4 => ?_
  have Fw4 := f3_1.same W4
  have f4_0 : Exa Z h4 a "com/example/keelstore/keelstore/layout/IndexLayout$Entry" := f3_0.wr W4
  have f4_1 : Fld Z h4 a "com/example/keelstore/keelstore/layout/IndexLayout$Entry" "previousEntry" "I" u4 := f3_2.other W4 (Or.inr (slot_ne (Or.inr (hw _ (List.mem_of_getElem? (i := 21) rfl))) (Or.inr (hw _ (List.mem_of_getElem? (i := 19) rfl))) (by decide) (t := .int) (t' := .int) (by decide) (by decide)))
  have f4_3 : Fld Z h4 a "com/example/keelstore/keelstore/layout/IndexLayout$Entry" "keyHash" "I" (.int p1) := f3_4.other W4 (Or.inr (slot_ne (Or.inr (hw _ (List.mem_of_getElem? (i := 15) rfl))) (Or.inr (hw _ (List.mem_of_getElem? (i := 19) rfl))) (by decide) (t := .int) (t' := .int) (by decide) (by decide)))
  have f4_4 : Fld Z h4 a "com/example/keelstore/keelstore/layout/IndexLayout$Entry" "physicalOffset" "J" (.long p2) := Fw3.other W4 (Or.inr (slot_ne (Or.inr (hw _ (List.mem_of_getElem? (i := 17) rfl))) (Or.inr (hw _ (List.mem_of_getElem? (i := 19) rfl))) (by decide) (t := .long) (t' := .int) (by decide) (by decide)))
  have sz4 : n0 ≤ h4.size := Nat.le_trans sz3 (Keep.of_wr W4).1
  have K4 : Keep h0 h4 [a] := K3.wr W4 (Or.inl (List.mem_of_getElem? (i := 0) rfl))
  show Go p e below _ T4 (mkF m 20 #[.val (.ref a), .val (.int p1), .val (.long p2), .second, .val (.int p3), .val (.int p4)] [])
  refine Go.st (T' := T4) (g' := (mkF m 21 #[.val (.ref a), .val (.int p1), .val (.long p2), .second, .val (.int p3), .val (.int p4)] [(.ref a)])) (fun t_ k_ => XS.aloadN X4.here hx rfl (hb hby d1_20) rfl rfl k_) ?_
  refine Go.st (T' := T4) (g' := (mkF m 23 #[.val (.ref a), .val (.int p1), .val (.long p2), .second, .val (.int p3), .val (.int p4)] [(.int p4), (.ref a)])) (fun t_ k_ => XS.iload X4.here hx rfl (hb hby d1_21) rfl k_) ?_
  refine goPut X4 hx hZ hown (host := "") (Or.inl (hw _ (List.mem_of_getElem? (i := 20) rfl))) Via.refl f4_1 f4_0 (Or.inr ⟨(hw _ (List.mem_of_getElem? (i := 21) rfl)), rfl, hnm⟩) (hw _ (List.mem_of_getElem? (i := 1) rfl)) (ty := .int) (by decide) rfl rfl g5 (hb hby d1_23) fun T5 h5 X5 W5 => ?_
  have Fw5 := f4_1.same W5
  have f5_0 : Exa Z h5 a "com/example/keelstore/keelstore/layout/IndexLayout$Entry" := f4_0.wr W5
  have f5_2 : Fld Z h5 a "com/example/keelstore/keelstore/layout/IndexLayout$Entry" "keyHash" "I" (.int p1) := f4_3.other W5 (Or.inr (slot_ne (Or.inr (hw _ (List.mem_of_getElem? (i := 15) rfl))) (Or.inr (hw _ (List.mem_of_getElem? (i := 21) rfl))) (by decide) (t := .int) (t' := .int) (by decide) (by decide)))
  have f5_3 : Fld Z h5 a "com/example/keelstore/keelstore/layout/IndexLayout$Entry" "physicalOffset" "J" (.long p2) := f4_4.other W5 (Or.inr (slot_ne (Or.inr (hw _ (List.mem_of_getElem? (i := 17) rfl))) (Or.inr (hw _ (List.mem_of_getElem? (i := 21) rfl))) (by decide) (t := .long) (t' := .int) (by decide) (by decide)))
  have f5_4 : Fld Z h5 a "com/example/keelstore/keelstore/layout/IndexLayout$Entry" "seconds" "I" (.int p3) := Fw4.other W5 (Or.inr (slot_ne (Or.inr (hw _ (List.mem_of_getElem? (i := 19) rfl))) (Or.inr (hw _ (List.mem_of_getElem? (i := 21) rfl))) (by decide) (t := .int) (t' := .int) (by decide) (by decide)))
  have sz5 : n0 ≤ h5.size := Nat.le_trans sz4 (Keep.of_wr W5).1
  have K5 : Keep h0 h5 [a] := K4.wr W5 (Or.inl (List.mem_of_getElem? (i := 0) rfl))
  show Go p e below _ T5 (mkF m 26 #[.val (.ref a), .val (.int p1), .val (.long p2), .second, .val (.int p3), .val (.int p4)] [])
  refine goRetV X5 hx hlk hret (hb hby d1_26) (by decide) (by decide) ?_
  refine ⟨rfl, K5, f5_0, Fw5⟩
theorem d4_0 : decode prog_30_method_3_code 0 = .ok (.aload_n 0, 1) := by decide +kernel
theorem d4_1 : decode prog_30_method_3_code 1 = .ok (.getfield 22, 3) := by decide +kernel
theorem d4_4 : decode prog_30_method_3_code 4 = .ok (.ifCond .lt 15, 3) := by decide +kernel
theorem d4_7 : decode prog_30_method_3_code 7 = .ok (.aload_n 0, 1) := by decide +kernel
theorem d4_8 : decode prog_30_method_3_code 8 = .ok (.getfield 22, 3) := by decide +kernel
theorem d4_11 : decode prog_30_method_3_code 11 = .ok (.iload_n 1, 1) := by decide +kernel
theorem d4_12 : decode prog_30_method_3_code 12 = .ok (.if_icmp .ge 7, 3) := by decide +kernel
theorem d4_15 : decode prog_30_method_3_code 15 = .ok (.iconst 1, 1) := by decide +kernel
theorem d4_16 : decode prog_30_method_3_code 16 = .ok (.goto 4, 3) := by decide +kernel
theorem d4_19 : decode prog_30_method_3_code 19 = .ok (.iconst 0, 1) := by decide +kernel
theorem d4_20 : decode prog_30_method_3_code 20 = .ok (.ireturn, 1) := by decide +kernel
theorem pn_4 : plainFor (⟨"com/example/keelstore/keelstore/layout/IndexLayout$Entry", "leadsToOlder", "(I)Z"⟩ : MethodName) = true := plainFor_of_name (by first | (simp [plainName, overriddenIn]; done) | decide +kernel)
theorem ef_rm4 (m : MethodId) (x0 : Addr) (x1 : Int32) : entryFrame m #[(.ref x0), (.int x1)] 2 = mkF m 0 #[.val (.ref x0), .val (.int x1)] [] := by first | (simp [entryFrame, mkF, argsToLocals, Value.category]; done) | rfl
def Q4 (Z : State) (n0 : Nat) (h0 : Heap) (a : Addr) (q : Int32) (w : Int32) (v : Option Value) (h : Heap) : Prop := ∃ (r : Int32), v = some (.int r) ∧ h = h0 ∧ (own_is r (own_old w q))
set_option maxRecDepth 65536 in
set_option maxHeartbeats 40000000 in
theorem rm4 (l : Launch) (Z : State) (a0 : Array Value) (hw : ∀ d ∈ tables_1, d.before a0 Z = true) (ws : List Jvm.Cond) (n0 : Nat) (h0 : Heap) (a : Addr) (q : Int32) (w : Int32) (sz0 : n0 ≤ h0.size) (g0 : Fld Z h0 a "com/example/keelstore/keelstore/layout/IndexLayout$Entry" "previousEntry" "I" (.int w)) :
    Con l (⟨"com/example/keelstore/keelstore/layout/IndexLayout$Entry", "leadsToOlder", "(I)Z"⟩ : MethodName) prog_30_method_3_code 2 (some .boolean) ({ frames := 0, cells := 0, slots := 0, locals := 0 } : Room) ws Z n0 #[(.ref a), (.int q)] h0 (Q4 Z n0 h0 a q w) := by
  refine Con.body pn_4 ?_
  intro p e s m below meth c s₁ hx hby hml hown hnm hret hlk hZ X0
  have hown : s.vm.findClass "com/example/keelstore/keelstore/layout/IndexLayout$Entry" = some m.cls := hown
  have hnm : meth.name = "leadsToOlder" := hnm
  rw [show entryFrame m #[(.ref a), (.int q)] 2 = mkF m 0 #[.val (.ref a), .val (.int q)] [] from ef_rm4 m a q]
  show Go p e below (PostW s n0 (0 : Nat) (0 : Nat) (Q4 Z n0 h0 a q w)) s₁ (mkF m 0 #[.val (.ref a), .val (.int q)] [])
  refine Go.st (T' := s₁) (g' := (mkF m 1 #[.val (.ref a), .val (.int q)] [(.ref a)])) (fun t_ k_ => XS.aloadN X0.here hx rfl (hb hby d4_0) rfl rfl k_) ?_
  refine goGet X0 hx hZ hown (host := "") (Or.inl (hw _ (List.mem_of_getElem? (i := 20) rfl))) Via.refl g0 (hb hby d4_1) fun T1 X1 => ?_
  show Go p e below _ T1 (mkF m 4 #[.val (.ref a), .val (.int q)] [(.int w)])
  by_cases hc4 : w < (0 : Int32)
  · skip
    refine Go.st (T' := T1) (g' := (mkF m 19 #[.val (.ref a), .val (.int q)] [])) (fun t_ k_ => XS.ifYes X1.here hx rfl (pc0 := 4) (pc' := 19) rfl (hb hby d4_4) rfl ((if0 _ _).trans (tlt hc4).1) (by decide) (by decide) k_) ?_
    refine Go.st (T' := T1) (g' := (mkF m 20 #[.val (.ref a), .val (.int q)] [(.int (0 : Int32))])) (fun t_ k_ => XS.iconst X1.here hx rfl (hb hby d4_19) k_) ?_
    refine goRetZ X1 hx hlk hret (hb hby d4_20) (by decide) (by decide) (Or.inl rfl) ?_
    refine ⟨(0 : Int32), rfl, rfl, ?_⟩
    · first | exact Or.inl ⟨rfl, by simp only [own_old, Int32.lt_iff_toInt_lt, Int32.reduceToInt] at *; omega⟩ | exact Or.inr ⟨rfl, by simp only [own_old, Int32.lt_iff_toInt_lt, Int32.reduceToInt] at *; omega⟩
  · skip
    refine Go.st (T' := T1) (g' := (mkF m 7 #[.val (.ref a), .val (.int q)] [])) (fun t_ k_ => XS.ifNo X1.here hx rfl (hb hby d4_4) rfl ((if0 _ _).trans (flt hc4).1) k_) ?_
    refine Go.st (T' := T1) (g' := (mkF m 8 #[.val (.ref a), .val (.int q)] [(.ref a)])) (fun t_ k_ => XS.aloadN X1.here hx rfl (hb hby d4_7) rfl rfl k_) ?_
    refine goGet X1 hx hZ hown (host := "") (Or.inl (hw _ (List.mem_of_getElem? (i := 20) rfl))) Via.refl g0 (hb hby d4_8) fun T2 X2 => ?_
    show Go p e below _ T2 (mkF m 11 #[.val (.ref a), .val (.int q)] [(.int w)])
    refine Go.st (T' := T2) (g' := (mkF m 12 #[.val (.ref a), .val (.int q)] [(.int q), (.int w)])) (fun t_ k_ => XS.iloadN X2.here hx rfl (hb hby d4_11) rfl k_) ?_
    by_cases hc12 : w < q
    · skip
      refine Go.st (T' := T2) (g' := (mkF m 15 #[.val (.ref a), .val (.int q)] [])) (fun t_ k_ => XS.icmpNo X2.here hx rfl (hb hby d4_12) rfl (tlt hc12).2.1 k_) ?_
      refine Go.st (T' := T2) (g' := (mkF m 16 #[.val (.ref a), .val (.int q)] [(.int (1 : Int32))])) (fun t_ k_ => XS.iconst X2.here hx rfl (hb hby d4_15) k_) ?_
      refine Go.st (T' := T2) (g' := (mkF m 20 #[.val (.ref a), .val (.int q)] [(.int (1 : Int32))])) (fun t_ k_ => XS.goto X2.here hx rfl (pc0 := 16) (pc' := 20) rfl (hb hby d4_16) (by decide) (by decide) k_) ?_
      refine goRetZ X2 hx hlk hret (hb hby d4_20) (by decide) (by decide) (Or.inr rfl) ?_
      refine ⟨(1 : Int32), rfl, rfl, ?_⟩
      · first | exact Or.inl ⟨rfl, by simp only [own_old, Int32.lt_iff_toInt_lt, Int32.reduceToInt] at *; omega⟩ | exact Or.inr ⟨rfl, by simp only [own_old, Int32.lt_iff_toInt_lt, Int32.reduceToInt] at *; omega⟩
    · skip
      refine Go.st (T' := T2) (g' := (mkF m 19 #[.val (.ref a), .val (.int q)] [])) (fun t_ k_ => XS.icmpYes X2.here hx rfl (pc0 := 12) (pc' := 19) rfl (hb hby d4_12) rfl (flt hc12).2.1 (by decide) (by decide) k_) ?_
      refine Go.st (T' := T2) (g' := (mkF m 20 #[.val (.ref a), .val (.int q)] [(.int (0 : Int32))])) (fun t_ k_ => XS.iconst X2.here hx rfl (hb hby d4_19) k_) ?_
      refine goRetZ X2 hx hlk hret (hb hby d4_20) (by decide) (by decide) (Or.inl rfl) ?_
      refine ⟨(0 : Int32), rfl, rfl, ?_⟩
      · first | exact Or.inl ⟨rfl, by simp only [own_old, Int32.lt_iff_toInt_lt, Int32.reduceToInt] at *; omega⟩ | exact Or.inr ⟨rfl, by simp only [own_old, Int32.lt_iff_toInt_lt, Int32.reduceToInt] at *; omega⟩
theorem d5_0 : decode method_3_code 0 = .ok (.iload_n 0, 1) := by decide +kernel
theorem d5_1 : decode method_3_code 1 = .ok (.i2l, 1) := by decide +kernel
theorem d5_2 : decode method_3_code 2 = .ok (.lstore_n 2, 1) := by decide +kernel
theorem d5_3 : decode method_3_code 3 = .ok (.iload_n 1, 1) := by decide +kernel
theorem d5_4 : decode method_3_code 4 = .ok (.i2l, 1) := by decide +kernel
theorem d5_5 : decode method_3_code 5 = .ok (.lstore 4, 2) := by decide +kernel
theorem d5_7 : decode method_3_code 7 = .ok (.lload_n 2, 1) := by decide +kernel
theorem d5_8 : decode method_3_code 8 = .ok (.lconst 0, 1) := by decide +kernel
theorem d5_9 : decode method_3_code 9 = .ok (.lcmp, 1) := by decide +kernel
theorem d5_10 : decode method_3_code 10 = .ok (.ifCond .ge 5, 3) := by decide +kernel
theorem d5_13 : decode method_3_code 13 = .ok (.iconst 0, 1) := by decide +kernel
theorem d5_14 : decode method_3_code 14 = .ok (.ireturn, 1) := by decide +kernel
theorem d5_15 : decode method_3_code 15 = .ok (.lload 4, 2) := by decide +kernel
theorem d5_17 : decode method_3_code 17 = .ok (.lload_n 2, 1) := by decide +kernel
theorem d5_18 : decode method_3_code 18 = .ok (.lsub, 1) := by decide +kernel
theorem d5_19 : decode method_3_code 19 = .ok (.lconst 1, 1) := by decide +kernel
theorem d5_20 : decode method_3_code 20 = .ok (.lcmp, 1) := by decide +kernel
theorem d5_21 : decode method_3_code 21 = .ok (.ifCond .lt 7, 3) := by decide +kernel
theorem d5_24 : decode method_3_code 24 = .ok (.iconst 1, 1) := by decide +kernel
theorem d5_25 : decode method_3_code 25 = .ok (.goto 4, 3) := by decide +kernel
theorem d5_28 : decode method_3_code 28 = .ok (.iconst 0, 1) := by decide +kernel
theorem d5_29 : decode method_3_code 29 = .ok (.ireturn, 1) := by decide +kernel
theorem pn_5 : plainFor (⟨"com/example/keelstore/keelstore/layout/IndexLayoutLeadsToOlderPinLaw", "expected", "(II)Z"⟩ : MethodName) = true := plainFor_of_name (by first | (simp [plainName, overriddenIn]; done) | decide +kernel)
theorem ef_rm5 (m : MethodId) (x0 : Int32) (x1 : Int32) : entryFrame m #[(.int x0), (.int x1)] 6 = mkF m 0 #[.val (.int x0), .val (.int x1), .unset, .unset, .unset, .unset] [] := by first | (simp [entryFrame, mkF, argsToLocals, Value.category]; done) | rfl
def Q5 (Z : State) (n0 : Nat) (h0 : Heap) (w : Int32) (q : Int32) (v : Option Value) (h : Heap) : Prop := ∃ (r : Int32), v = some (.int r) ∧ h = h0 ∧ (own_is r (own_old w q))
set_option maxRecDepth 65536 in
set_option maxHeartbeats 40000000 in
theorem rm5 (l : Launch) (Z : State) (a0 : Array Value) (hw : ∀ d ∈ tables_1, d.before a0 Z = true) (ws : List Jvm.Cond) (n0 : Nat) (h0 : Heap) (w : Int32) (q : Int32) (sz0 : n0 ≤ h0.size) :
    Con l (⟨"com/example/keelstore/keelstore/layout/IndexLayoutLeadsToOlderPinLaw", "expected", "(II)Z"⟩ : MethodName) method_3_code 6 (some .boolean) ({ frames := 0, cells := 0, slots := 0, locals := 0 } : Room) ws Z n0 #[(.int w), (.int q)] h0 (Q5 Z n0 h0 w q) := by
  refine Con.body pn_5 ?_
  intro p e s m below meth c s₁ hx hby hml hown hnm hret hlk hZ X0
  have hown : s.vm.findClass "com/example/keelstore/keelstore/layout/IndexLayoutLeadsToOlderPinLaw" = some m.cls := hown
  have hnm : meth.name = "expected" := hnm
  rw [show entryFrame m #[(.int w), (.int q)] 6 = mkF m 0 #[.val (.int w), .val (.int q), .unset, .unset, .unset, .unset] [] from ef_rm5 m w q]
  show Go p e below (PostW s n0 (0 : Nat) (0 : Nat) (Q5 Z n0 h0 w q)) s₁ (mkF m 0 #[.val (.int w), .val (.int q), .unset, .unset, .unset, .unset] [])
  refine Go.st (T' := s₁) (g' := (mkF m 1 #[.val (.int w), .val (.int q), .unset, .unset, .unset, .unset] [(.int w)])) (fun t_ k_ => XS.iloadN X0.here hx rfl (hb hby d5_0) rfl k_) ?_
  refine Go.st (T' := s₁) (g' := (mkF m 2 #[.val (.int w), .val (.int q), .unset, .unset, .unset, .unset] [(.long (w.toInt64))])) (fun t_ k_ => XS.i2l X0.here hx rfl (hb hby d5_1) rfl k_) ?_
  refine Go.st (T' := s₁) (g' := (mkF m 3 #[.val (.int w), .val (.int q), .val (.long (w.toInt64)), .second, .unset, .unset] [])) (fun t_ k_ => XS.lstoreN X0.here hx rfl (hb hby d5_2) rfl (l' := #[.val (.int w), .val (.int q), .val (.long (w.toInt64)), .second, .unset, .unset]) rfl k_) ?_
  refine Go.st (T' := s₁) (g' := (mkF m 4 #[.val (.int w), .val (.int q), .val (.long (w.toInt64)), .second, .unset, .unset] [(.int q)])) (fun t_ k_ => XS.iloadN X0.here hx rfl (hb hby d5_3) rfl k_) ?_
  refine Go.st (T' := s₁) (g' := (mkF m 5 #[.val (.int w), .val (.int q), .val (.long (w.toInt64)), .second, .unset, .unset] [(.long (q.toInt64))])) (fun t_ k_ => XS.i2l X0.here hx rfl (hb hby d5_4) rfl k_) ?_
  refine Go.st (T' := s₁) (g' := (mkF m 7 #[.val (.int w), .val (.int q), .val (.long (w.toInt64)), .second, .val (.long (q.toInt64)), .second] [])) (fun t_ k_ => XS.lstore X0.here hx rfl (hb hby d5_5) rfl (l' := #[.val (.int w), .val (.int q), .val (.long (w.toInt64)), .second, .val (.long (q.toInt64)), .second]) rfl k_) ?_
  refine Go.st (T' := s₁) (g' := (mkF m 8 #[.val (.int w), .val (.int q), .val (.long (w.toInt64)), .second, .val (.long (q.toInt64)), .second] [(.long (w.toInt64))])) (fun t_ k_ => XS.lloadN X0.here hx rfl (hb hby d5_7) rfl k_) ?_
  refine Go.st (T' := s₁) (g' := (mkF m 9 #[.val (.int w), .val (.int q), .val (.long (w.toInt64)), .second, .val (.long (q.toInt64)), .second] [(.long (0 : Int64)), (.long (w.toInt64))])) (fun t_ k_ => XS.lconst X0.here hx rfl (hb hby d5_8) k_) ?_
  refine Go.st (T' := s₁) (g' := (mkF m 10 #[.val (.int w), .val (.int q), .val (.long (w.toInt64)), .second, .val (.long (q.toInt64)), .second] [(.int (lcmpW (w.toInt64) (0 : Int64)))])) (fun t_ k_ => XS.lcmp X0.here hx rfl (hb hby d5_9) rfl k_) ?_
  by_cases hc10 : (w.toInt64) < (0 : Int64)
  · skip
    refine Go.st (T' := s₁) (g' := (mkF m 13 #[.val (.int w), .val (.int q), .val (.long (w.toInt64)), .second, .val (.long (q.toInt64)), .second] [])) (fun t_ k_ => XS.ifNo X0.here hx rfl (hb hby d5_10) rfl (lcTlt hc10).2 k_) ?_
    refine Go.st (T' := s₁) (g' := (mkF m 14 #[.val (.int w), .val (.int q), .val (.long (w.toInt64)), .second, .val (.long (q.toInt64)), .second] [(.int (0 : Int32))])) (fun t_ k_ => XS.iconst X0.here hx rfl (hb hby d5_13) k_) ?_
    refine goRetZ X0 hx hlk hret (hb hby d5_14) (by decide) (by decide) (Or.inl rfl) ?_
    refine ⟨(0 : Int32), rfl, rfl, ?_⟩
    · first | exact Or.inl ⟨rfl, by simp only [own_old, Int32.lt_iff_toInt_lt, Int64.lt_iff_toInt_lt, own_lsub, Jvm.Kit.i64_of_i32, Int32.reduceToInt, Int64.reduceToInt] at *; omega⟩ | exact Or.inr ⟨rfl, by simp only [own_old, Int32.lt_iff_toInt_lt, Int64.lt_iff_toInt_lt, own_lsub, Jvm.Kit.i64_of_i32, Int32.reduceToInt, Int64.reduceToInt] at *; omega⟩
  · skip
    refine Go.st (T' := s₁) (g' := (mkF m 15 #[.val (.int w), .val (.int q), .val (.long (w.toInt64)), .second, .val (.long (q.toInt64)), .second] [])) (fun t_ k_ => XS.ifYes X0.here hx rfl (pc0 := 10) (pc' := 15) rfl (hb hby d5_10) rfl (lcFlt hc10).2 (by decide) (by decide) k_) ?_
    refine Go.st (T' := s₁) (g' := (mkF m 17 #[.val (.int w), .val (.int q), .val (.long (w.toInt64)), .second, .val (.long (q.toInt64)), .second] [(.long (q.toInt64))])) (fun t_ k_ => XS.lload X0.here hx rfl (hb hby d5_15) rfl k_) ?_
    refine Go.st (T' := s₁) (g' := (mkF m 18 #[.val (.int w), .val (.int q), .val (.long (w.toInt64)), .second, .val (.long (q.toInt64)), .second] [(.long (w.toInt64)), (.long (q.toInt64))])) (fun t_ k_ => XS.lloadN X0.here hx rfl (hb hby d5_17) rfl k_) ?_
    refine Go.st (T' := s₁) (g' := (mkF m 19 #[.val (.int w), .val (.int q), .val (.long (w.toInt64)), .second, .val (.long (q.toInt64)), .second] [(.long ((q.toInt64) - (w.toInt64)))])) (fun t_ k_ => XS.lsub X0.here hx rfl (hb hby d5_18) rfl k_) ?_
    refine Go.st (T' := s₁) (g' := (mkF m 20 #[.val (.int w), .val (.int q), .val (.long (w.toInt64)), .second, .val (.long (q.toInt64)), .second] [(.long (1 : Int64)), (.long ((q.toInt64) - (w.toInt64)))])) (fun t_ k_ => XS.lconst X0.here hx rfl (hb hby d5_19) k_) ?_
    refine Go.st (T' := s₁) (g' := (mkF m 21 #[.val (.int w), .val (.int q), .val (.long (w.toInt64)), .second, .val (.long (q.toInt64)), .second] [(.int (lcmpW ((q.toInt64) - (w.toInt64)) (1 : Int64)))])) (fun t_ k_ => XS.lcmp X0.here hx rfl (hb hby d5_20) rfl k_) ?_
    by_cases hc21 : ((q.toInt64) - (w.toInt64)) < (1 : Int64)
    · skip
      refine Go.st (T' := s₁) (g' := (mkF m 28 #[.val (.int w), .val (.int q), .val (.long (w.toInt64)), .second, .val (.long (q.toInt64)), .second] [])) (fun t_ k_ => XS.ifYes X0.here hx rfl (pc0 := 21) (pc' := 28) rfl (hb hby d5_21) rfl (lcTlt hc21).1 (by decide) (by decide) k_) ?_
      refine Go.st (T' := s₁) (g' := (mkF m 29 #[.val (.int w), .val (.int q), .val (.long (w.toInt64)), .second, .val (.long (q.toInt64)), .second] [(.int (0 : Int32))])) (fun t_ k_ => XS.iconst X0.here hx rfl (hb hby d5_28) k_) ?_
      refine goRetZ X0 hx hlk hret (hb hby d5_29) (by decide) (by decide) (Or.inl rfl) ?_
      refine ⟨(0 : Int32), rfl, rfl, ?_⟩
      · first | exact Or.inl ⟨rfl, by simp only [own_old, Int32.lt_iff_toInt_lt, Int64.lt_iff_toInt_lt, own_lsub, Jvm.Kit.i64_of_i32, Int32.reduceToInt, Int64.reduceToInt] at *; omega⟩ | exact Or.inr ⟨rfl, by simp only [own_old, Int32.lt_iff_toInt_lt, Int64.lt_iff_toInt_lt, own_lsub, Jvm.Kit.i64_of_i32, Int32.reduceToInt, Int64.reduceToInt] at *; omega⟩
    · skip
      refine Go.st (T' := s₁) (g' := (mkF m 24 #[.val (.int w), .val (.int q), .val (.long (w.toInt64)), .second, .val (.long (q.toInt64)), .second] [])) (fun t_ k_ => XS.ifNo X0.here hx rfl (hb hby d5_21) rfl (lcFlt hc21).1 k_) ?_
      refine Go.st (T' := s₁) (g' := (mkF m 25 #[.val (.int w), .val (.int q), .val (.long (w.toInt64)), .second, .val (.long (q.toInt64)), .second] [(.int (1 : Int32))])) (fun t_ k_ => XS.iconst X0.here hx rfl (hb hby d5_24) k_) ?_
      refine Go.st (T' := s₁) (g' := (mkF m 29 #[.val (.int w), .val (.int q), .val (.long (w.toInt64)), .second, .val (.long (q.toInt64)), .second] [(.int (1 : Int32))])) (fun t_ k_ => XS.goto X0.here hx rfl (pc0 := 25) (pc' := 29) rfl (hb hby d5_25) (by decide) (by decide) k_) ?_
      refine goRetZ X0 hx hlk hret (hb hby d5_29) (by decide) (by decide) (Or.inr rfl) ?_
      refine ⟨(1 : Int32), rfl, rfl, ?_⟩
      · first | exact Or.inl ⟨rfl, by simp only [own_old, Int32.lt_iff_toInt_lt, Int64.lt_iff_toInt_lt, own_lsub, Jvm.Kit.i64_of_i32, Int32.reduceToInt, Int64.reduceToInt] at *; omega⟩ | exact Or.inr ⟨rfl, by simp only [own_old, Int32.lt_iff_toInt_lt, Int64.lt_iff_toInt_lt, own_lsub, Jvm.Kit.i64_of_i32, Int32.reduceToInt, Int64.reduceToInt] at *; omega⟩
theorem pn_0 : plainFor x = true := plainFor_of_name (by first | (simp [plainName, overriddenIn]; done) | decide +kernel)
theorem pd_0433791b : parseMethodDescriptor "(IJII)V" = some ⟨[.int, .long, .int, .int], none⟩ := by decide +kernel
theorem pd_f471c983 : parseMethodDescriptor "(I)Z" = some ⟨[.int], some .boolean⟩ := by decide +kernel
theorem pd_613c1521 : parseMethodDescriptor "(II)Z" = some ⟨[.int, .int], some .boolean⟩ := by decide +kernel
theorem ef_rm0 (m : MethodId) (x0 : Int32) (x1 : Int64) (x2 : Int32) (x3 : Int32) (x4 : Int32) : entryFrame m #[(.int x0), (.long x1), (.int x2), (.int x3), (.int x4)] maxLocals = mkF m 0 #[.val (.int x0), .val (.long x1), .second, .val (.int x2), .val (.int x3), .val (.int x4), .unset, .unset, .unset, .unset, .unset] [] := by first | (simp [entryFrame, mkF, argsToLocals, Value.category, maxLocals]; done) | rfl
def Q0 (Z : State) (n0 : Nat) (h0 : Heap) (k1 : Int32) (k2 : Int64) (k3 : Int32) (pe : Int32) (en : Int32) (v : Option Value) (h : Heap) : Prop := v = some (.int (1 : Int32))
set_option maxRecDepth 65536 in
set_option maxHeartbeats 40000000 in
theorem rm0 (l : Launch) (Z : State) (a0 : Array Value) (hw : ∀ d ∈ tables_1, d.before a0 Z = true) (ws : List Jvm.Cond) (n0 : Nat) (h0 : Heap) (k1 : Int32) (k2 : Int64) (k3 : Int32) (pe : Int32) (en : Int32) (sz0 : n0 ≤ h0.size) :
    Con l x code maxLocals ret room_1 ws Z n0 #[(.int k1), (.long k2), (.int k3), (.int pe), (.int en)] h0 (Q0 Z n0 h0 k1 k2 k3 pe en) := by
  refine Con.body pn_0 ?_
  intro p e s m below meth c s₁ hx hby hml hown hnm hret hlk hZ X0
  have hown : s.vm.findClass "com/example/keelstore/keelstore/layout/IndexLayoutLeadsToOlderPinLaw" = some m.cls := hown
  have hnm : meth.name = "law" := hnm
  have hml : c.maxLocals = 11 := hml
  have hret : meth.sig.returnType = some .boolean := hret
  rw [show entryFrame m #[(.int k1), (.long k2), (.int k3), (.int pe), (.int en)] maxLocals = mkF m 0 #[.val (.int k1), .val (.long k2), .second, .val (.int k3), .val (.int pe), .val (.int en), .unset, .unset, .unset, .unset, .unset] [] from ef_rm0 m k1 k2 k3 pe en]
  show Go p e below (PostW s n0 room_1.cells room_1.slots (Q0 Z n0 h0 k1 k2 k3 pe en)) s₁ (mkF m 0 #[.val (.int k1), .val (.long k2), .second, .val (.int k3), .val (.int pe), .val (.int en), .unset, .unset, .unset, .unset, .unset] [])
  refine goNew X0 hx hZ hown (hw _ (List.mem_of_getElem? (i := 0) rfl)) (hw _ (List.mem_of_getElem? (i := 1) rfl)) (hw _ (List.mem_of_getElem? (i := 2) rfl)) (hb hby at_0) (by decide) (by decide) fun T1 h1 b1 gb1 X1 E1 A1 D1 => ?_
  have ge1 : n0 ≤ b1 := gb1 ▸ sz0
  have sz1 : n0 ≤ h1.size := Nat.le_trans sz0 E1.1
  have F1_keyHash : Fld Z h1 b1 "com/example/keelstore/keelstore/layout/IndexLayout$Entry" "keyHash" "I" (.int (0 : Int32)) := D1 (Or.inr (hw _ (List.mem_of_getElem? (i := 15) rfl))) (ty := .int) (by decide)
  have F1_physicalOffset : Fld Z h1 b1 "com/example/keelstore/keelstore/layout/IndexLayout$Entry" "physicalOffset" "J" (.long (0 : Int64)) := D1 (Or.inr (hw _ (List.mem_of_getElem? (i := 17) rfl))) (ty := .long) (by decide)
  have F1_seconds : Fld Z h1 b1 "com/example/keelstore/keelstore/layout/IndexLayout$Entry" "seconds" "I" (.int (0 : Int32)) := D1 (Or.inr (hw _ (List.mem_of_getElem? (i := 19) rfl))) (ty := .int) (by decide)
  have F1_previousEntry : Fld Z h1 b1 "com/example/keelstore/keelstore/layout/IndexLayout$Entry" "previousEntry" "I" (.int (0 : Int32)) := D1 (Or.inr (hw _ (List.mem_of_getElem? (i := 21) rfl))) (ty := .int) (by decide)
  show Go p e below _ T1 (mkF m 3 #[.val (.int k1), .val (.long k2), .second, .val (.int k3), .val (.int pe), .val (.int en), .unset, .unset, .unset, .unset, .unset] [(.ref b1)])
  refine Go.st (T' := T1) (g' := (mkF m 4 #[.val (.int k1), .val (.long k2), .second, .val (.int k3), .val (.int pe), .val (.int en), .unset, .unset, .unset, .unset, .unset] [(.ref b1), (.ref b1)])) (fun t_ k_ => XS.dup X1.here hx rfl (hb hby at_3) rfl rfl k_) ?_
  refine Go.st (T' := T1) (g' := (mkF m 5 #[.val (.int k1), .val (.long k2), .second, .val (.int k3), .val (.int pe), .val (.int en), .unset, .unset, .unset, .unset, .unset] [(.int k1), (.ref b1), (.ref b1)])) (fun t_ k_ => XS.iloadN X1.here hx rfl (hb hby at_4) rfl k_) ?_
  refine Go.st (T' := T1) (g' := (mkF m 6 #[.val (.int k1), .val (.long k2), .second, .val (.int k3), .val (.int pe), .val (.int en), .unset, .unset, .unset, .unset, .unset] [(.long k2), (.int k1), (.ref b1), (.ref b1)])) (fun t_ k_ => XS.lloadN X1.here hx rfl (hb hby at_5) rfl k_) ?_
  refine Go.st (T' := T1) (g' := (mkF m 7 #[.val (.int k1), .val (.long k2), .second, .val (.int k3), .val (.int pe), .val (.int en), .unset, .unset, .unset, .unset, .unset] [(.int k3), (.long k2), (.int k1), (.ref b1), (.ref b1)])) (fun t_ k_ => XS.iloadN X1.here hx rfl (hb hby at_6) rfl k_) ?_
  refine Go.st (T' := T1) (g' := (mkF m 9 #[.val (.int k1), .val (.long k2), .second, .val (.int k3), .val (.int pe), .val (.int en), .unset, .unset, .unset, .unset, .unset] [(.int pe), (.int k3), (.long k2), (.int k1), (.ref b1), (.ref b1)])) (fun t_ k_ => XS.iload X1.here hx rfl (hb hby at_7) rfl k_) ?_
  refine goCtor X1 hx hZ (y := (⟨"com/example/keelstore/keelstore/layout/IndexLayout$Entry", "<init>", "(IJII)V"⟩ : MethodName)) rfl hown (hw _ (List.mem_of_getElem? (i := 3) rfl)) (hw _ (List.mem_of_getElem? (i := 4) rfl)) (hw _ (List.mem_of_getElem? (i := 2) rfl)) (hw _ (List.mem_of_getElem? (i := 5) rfl)) (by decide) (rm1 l Z a0 hw [] n0 h1 b1 k1 k2 k3 pe (.int (0 : Int32)) (.long (0 : Int64)) (.int (0 : Int32)) (.int (0 : Int32)) sz1 A1 F1_keyHash F1_physicalOffset F1_seconds F1_previousEntry ge1) 1 (by decide) (by decide) (by rw [hml]; rfl) b1 [(.int k1), (.long k2), (.int k3), (.int pe)] [(.ref b1)] (lenOf pd_0433791b rfl) rfl rfl rfl (hb hby at_9) (by decide) (by decide) fun v2 T2 h2 X2 hq2 => ?_
  obtain ⟨rfl, K2c, p2_0, p2_1⟩ := hq2
  have f2_1 : Exa Z h2 b1 "com/example/keelstore/keelstore/layout/IndexLayout$Entry" := A1.keep K2c
  have sz2 : n0 ≤ h2.size := Nat.le_trans sz1 K2c.1
  show Go p e below _ T2 (mkF m 12 #[.val (.int k1), .val (.long k2), .second, .val (.int k3), .val (.int pe), .val (.int en), .unset, .unset, .unset, .unset, .unset] [(.ref b1)])
  refine Go.st (T' := T2) (g' := (mkF m 14 #[.val (.int k1), .val (.long k2), .second, .val (.int k3), .val (.int pe), .val (.int en), .val (.ref b1), .unset, .unset, .unset, .unset] [])) (fun t_ k_ => XS.astore X2.here hx rfl (hb hby at_12) rfl rfl (l' := #[.val (.int k1), .val (.long k2), .second, .val (.int k3), .val (.int pe), .val (.int en), .val (.ref b1), .unset, .unset, .unset, .unset]) rfl k_) ?_
  refine Go.st (T' := T2) (g' := (mkF m 16 #[.val (.int k1), .val (.long k2), .second, .val (.int k3), .val (.int pe), .val (.int en), .val (.ref b1), .unset, .unset, .unset, .unset] [(.int pe)])) (fun t_ k_ => XS.iload X2.here hx rfl (hb hby at_14) rfl k_) ?_
  refine Go.st (T' := T2) (g' := (mkF m 17 #[.val (.int k1), .val (.long k2), .second, .val (.int k3), .val (.int pe), .val (.int en), .val (.ref b1), .unset, .unset, .unset, .unset] [(.int (1 : Int32)), (.int pe)])) (fun t_ k_ => XS.iconst X2.here hx rfl (hb hby at_16) k_) ?_
  refine Go.st (T' := T2) (g' := (mkF m 18 #[.val (.int k1), .val (.long k2), .second, .val (.int k3), .val (.int pe), .val (.int en), .val (.ref b1), .unset, .unset, .unset, .unset] [(.int (pe + (1 : Int32)))])) (fun t_ k_ => XS.iadd X2.here hx rfl (hb hby at_17) rfl k_) ?_
  refine Go.st (T' := T2) (g' := (mkF m 20 #[.val (.int k1), .val (.long k2), .second, .val (.int k3), .val (.int pe), .val (.int en), .val (.ref b1), .val (.int (pe + (1 : Int32))), .unset, .unset, .unset] [])) (fun t_ k_ => XS.istore X2.here hx rfl (hb hby at_18) rfl (l' := #[.val (.int k1), .val (.long k2), .second, .val (.int k3), .val (.int pe), .val (.int en), .val (.ref b1), .val (.int (pe + (1 : Int32))), .unset, .unset, .unset]) rfl k_) ?_
  refine Go.st (T' := T2) (g' := (mkF m 22 #[.val (.int k1), .val (.long k2), .second, .val (.int k3), .val (.int pe), .val (.int en), .val (.ref b1), .val (.int (pe + (1 : Int32))), .unset, .unset, .unset] [(.ref b1)])) (fun t_ k_ => XS.aload X2.here hx rfl (hb hby at_20) rfl rfl k_) ?_
  refine Go.st (T' := T2) (g' := (mkF m 24 #[.val (.int k1), .val (.long k2), .second, .val (.int k3), .val (.int pe), .val (.int en), .val (.ref b1), .val (.int (pe + (1 : Int32))), .unset, .unset, .unset] [(.int en), (.ref b1)])) (fun t_ k_ => XS.iload X2.here hx rfl (hb hby at_22) rfl k_) ?_
  refine goVirtS X2 hx hZ (y := (⟨"com/example/keelstore/keelstore/layout/IndexLayout$Entry", "leadsToOlder", "(I)Z"⟩ : MethodName)) hown (hw _ (List.mem_of_getElem? (i := 22) rfl)) (hw _ (List.mem_of_getElem? (i := 23) rfl)) (hw _ (List.mem_of_getElem? (i := 25) rfl)) (hw _ (List.mem_of_getElem? (i := 24) rfl)) (hw _ (List.mem_of_getElem? (i := 2) rfl)) (hw _ (List.mem_of_getElem? (i := 26) rfl)) (by decide) p2_0 (rm4 l Z a0 hw [] n0 h2 b1 en pe sz2 p2_1) 0 (by decide) (by decide) (by rw [hml]; rfl) [(.int en)] [] (lenOf pd_f471c983 rfl) rfl rfl rfl (hb hby at_24) (by decide) (by decide) fun v3 T3 h3 X3 hq3 => ?_
  obtain ⟨r1, rfl, eh3, t1⟩ := hq3
  rw [eh3] at X3
  show Go p e below _ T3 (mkF m 27 #[.val (.int k1), .val (.long k2), .second, .val (.int k3), .val (.int pe), .val (.int en), .val (.ref b1), .val (.int (pe + (1 : Int32))), .unset, .unset, .unset] [(.int r1)])
  refine Go.st (T' := T3) (g' := (mkF m 29 #[.val (.int k1), .val (.long k2), .second, .val (.int k3), .val (.int pe), .val (.int en), .val (.ref b1), .val (.int (pe + (1 : Int32))), .val (.int r1), .unset, .unset] [])) (fun t_ k_ => XS.istore X3.here hx rfl (hb hby at_27) rfl (l' := #[.val (.int k1), .val (.long k2), .second, .val (.int k3), .val (.int pe), .val (.int en), .val (.ref b1), .val (.int (pe + (1 : Int32))), .val (.int r1), .unset, .unset]) rfl k_) ?_
  refine Go.st (T' := T3) (g' := (mkF m 31 #[.val (.int k1), .val (.long k2), .second, .val (.int k3), .val (.int pe), .val (.int en), .val (.ref b1), .val (.int (pe + (1 : Int32))), .val (.int r1), .unset, .unset] [(.ref b1)])) (fun t_ k_ => XS.aload X3.here hx rfl (hb hby at_29) rfl rfl k_) ?_
  refine Go.st (T' := T3) (g' := (mkF m 33 #[.val (.int k1), .val (.long k2), .second, .val (.int k3), .val (.int pe), .val (.int en), .val (.ref b1), .val (.int (pe + (1 : Int32))), .val (.int r1), .unset, .unset] [(.int pe), (.ref b1)])) (fun t_ k_ => XS.iload X3.here hx rfl (hb hby at_31) rfl k_) ?_
  refine goVirtS X3 hx hZ (y := (⟨"com/example/keelstore/keelstore/layout/IndexLayout$Entry", "leadsToOlder", "(I)Z"⟩ : MethodName)) hown (hw _ (List.mem_of_getElem? (i := 22) rfl)) (hw _ (List.mem_of_getElem? (i := 23) rfl)) (hw _ (List.mem_of_getElem? (i := 25) rfl)) (hw _ (List.mem_of_getElem? (i := 24) rfl)) (hw _ (List.mem_of_getElem? (i := 2) rfl)) (hw _ (List.mem_of_getElem? (i := 26) rfl)) (by decide) p2_0 (rm4 l Z a0 hw [] n0 h2 b1 pe pe sz2 p2_1) 0 (by decide) (by decide) (by rw [hml]; rfl) [(.int pe)] [] (lenOf pd_f471c983 rfl) rfl rfl rfl (hb hby at_33) (by decide) (by decide) fun v4 T4 h4 X4 hq4 => ?_
  obtain ⟨r2, rfl, eh4, t2⟩ := hq4
  rw [eh4] at X4
  show Go p e below _ T4 (mkF m 36 #[.val (.int k1), .val (.long k2), .second, .val (.int k3), .val (.int pe), .val (.int en), .val (.ref b1), .val (.int (pe + (1 : Int32))), .val (.int r1), .unset, .unset] [(.int r2)])
  refine Go.st (T' := T4) (g' := (mkF m 38 #[.val (.int k1), .val (.long k2), .second, .val (.int k3), .val (.int pe), .val (.int en), .val (.ref b1), .val (.int (pe + (1 : Int32))), .val (.int r1), .val (.int r2), .unset] [])) (fun t_ k_ => XS.istore X4.here hx rfl (hb hby at_36) rfl (l' := #[.val (.int k1), .val (.long k2), .second, .val (.int k3), .val (.int pe), .val (.int en), .val (.ref b1), .val (.int (pe + (1 : Int32))), .val (.int r1), .val (.int r2), .unset]) rfl k_) ?_
  refine Go.st (T' := T4) (g' := (mkF m 40 #[.val (.int k1), .val (.long k2), .second, .val (.int k3), .val (.int pe), .val (.int en), .val (.ref b1), .val (.int (pe + (1 : Int32))), .val (.int r1), .val (.int r2), .unset] [(.ref b1)])) (fun t_ k_ => XS.aload X4.here hx rfl (hb hby at_38) rfl rfl k_) ?_
  refine Go.st (T' := T4) (g' := (mkF m 42 #[.val (.int k1), .val (.long k2), .second, .val (.int k3), .val (.int pe), .val (.int en), .val (.ref b1), .val (.int (pe + (1 : Int32))), .val (.int r1), .val (.int r2), .unset] [(.int (pe + (1 : Int32))), (.ref b1)])) (fun t_ k_ => XS.iload X4.here hx rfl (hb hby at_40) rfl k_) ?_
  refine goVirtS X4 hx hZ (y := (⟨"com/example/keelstore/keelstore/layout/IndexLayout$Entry", "leadsToOlder", "(I)Z"⟩ : MethodName)) hown (hw _ (List.mem_of_getElem? (i := 22) rfl)) (hw _ (List.mem_of_getElem? (i := 23) rfl)) (hw _ (List.mem_of_getElem? (i := 25) rfl)) (hw _ (List.mem_of_getElem? (i := 24) rfl)) (hw _ (List.mem_of_getElem? (i := 2) rfl)) (hw _ (List.mem_of_getElem? (i := 26) rfl)) (by decide) p2_0 (rm4 l Z a0 hw [] n0 h2 b1 (pe + (1 : Int32)) pe sz2 p2_1) 0 (by decide) (by decide) (by rw [hml]; rfl) [(.int (pe + (1 : Int32)))] [] (lenOf pd_f471c983 rfl) rfl rfl rfl (hb hby at_42) (by decide) (by decide) fun v5 T5 h5 X5 hq5 => ?_
  obtain ⟨r3, rfl, eh5, t3⟩ := hq5
  rw [eh5] at X5
  show Go p e below _ T5 (mkF m 45 #[.val (.int k1), .val (.long k2), .second, .val (.int k3), .val (.int pe), .val (.int en), .val (.ref b1), .val (.int (pe + (1 : Int32))), .val (.int r1), .val (.int r2), .unset] [(.int r3)])
  refine Go.st (T' := T5) (g' := (mkF m 47 #[.val (.int k1), .val (.long k2), .second, .val (.int k3), .val (.int pe), .val (.int en), .val (.ref b1), .val (.int (pe + (1 : Int32))), .val (.int r1), .val (.int r2), .val (.int r3)] [])) (fun t_ k_ => XS.istore X5.here hx rfl (hb hby at_45) rfl (l' := #[.val (.int k1), .val (.long k2), .second, .val (.int k3), .val (.int pe), .val (.int en), .val (.ref b1), .val (.int (pe + (1 : Int32))), .val (.int r1), .val (.int r2), .val (.int r3)]) rfl k_) ?_
  refine Go.st (T' := T5) (g' := (mkF m 49 #[.val (.int k1), .val (.long k2), .second, .val (.int k3), .val (.int pe), .val (.int en), .val (.ref b1), .val (.int (pe + (1 : Int32))), .val (.int r1), .val (.int r2), .val (.int r3)] [(.int r1)])) (fun t_ k_ => XS.iload X5.here hx rfl (hb hby at_47) rfl k_) ?_
  refine Go.st (T' := T5) (g' := (mkF m 51 #[.val (.int k1), .val (.long k2), .second, .val (.int k3), .val (.int pe), .val (.int en), .val (.ref b1), .val (.int (pe + (1 : Int32))), .val (.int r1), .val (.int r2), .val (.int r3)] [(.int pe), (.int r1)])) (fun t_ k_ => XS.iload X5.here hx rfl (hb hby at_49) rfl k_) ?_
  refine Go.st (T' := T5) (g' := (mkF m 53 #[.val (.int k1), .val (.long k2), .second, .val (.int k3), .val (.int pe), .val (.int en), .val (.ref b1), .val (.int (pe + (1 : Int32))), .val (.int r1), .val (.int r2), .val (.int r3)] [(.int en), (.int pe), (.int r1)])) (fun t_ k_ => XS.iload X5.here hx rfl (hb hby at_51) rfl k_) ?_
  refine goStatic X5 hx hZ (y := (⟨"com/example/keelstore/keelstore/layout/IndexLayoutLeadsToOlderPinLaw", "expected", "(II)Z"⟩ : MethodName)) hown (hw _ (List.mem_of_getElem? (i := 27) rfl)) (hw _ (List.mem_of_getElem? (i := 28) rfl)) (hw _ (List.mem_of_getElem? (i := 29) rfl)) (hw _ (List.mem_of_getElem? (i := 30) rfl)) (by decide) (rm5 l Z a0 hw [] n0 h2 pe en sz2) 1 (by decide) (by decide) (by rw [hml]; rfl) [(.int pe), (.int en)] [(.int r1)] (lenOf pd_613c1521 rfl) rfl rfl rfl (hb hby at_53) (by decide) (by decide) fun v6 T6 h6 X6 hq6 => ?_
  obtain ⟨r4, rfl, eh6, t4⟩ := hq6
  rw [eh6] at X6
  show Go p e below _ T6 (mkF m 56 #[.val (.int k1), .val (.long k2), .second, .val (.int k3), .val (.int pe), .val (.int en), .val (.ref b1), .val (.int (pe + (1 : Int32))), .val (.int r1), .val (.int r2), .val (.int r3)] [(.int r4), (.int r1)])
  have hc56 : r1 = r4 := own_is_eq t1 t4
  refine Go.st (T' := T6) (g' := (mkF m 59 #[.val (.int k1), .val (.long k2), .second, .val (.int k3), .val (.int pe), .val (.int en), .val (.ref b1), .val (.int (pe + (1 : Int32))), .val (.int r1), .val (.int r2), .val (.int r3)] [])) (fun t_ k_ => XS.icmpNo X6.here hx rfl (hb hby at_56) rfl (teq hc56).2 k_) ?_
  refine Go.st (T' := T6) (g' := (mkF m 61 #[.val (.int k1), .val (.long k2), .second, .val (.int k3), .val (.int pe), .val (.int en), .val (.ref b1), .val (.int (pe + (1 : Int32))), .val (.int r1), .val (.int r2), .val (.int r3)] [(.int r2)])) (fun t_ k_ => XS.iload X6.here hx rfl (hb hby at_59) rfl k_) ?_
  have hc61 : r2 = (0 : Int32) := own_no t2 (fun q => Int32.lt_irrefl q.2)
  refine Go.st (T' := T6) (g' := (mkF m 64 #[.val (.int k1), .val (.long k2), .second, .val (.int k3), .val (.int pe), .val (.int en), .val (.ref b1), .val (.int (pe + (1 : Int32))), .val (.int r1), .val (.int r2), .val (.int r3)] [])) (fun t_ k_ => XS.ifNo X6.here hx rfl (hb hby at_61) rfl ((if0 _ _).trans (teq hc61).2) k_) ?_
  refine Go.st (T' := T6) (g' := (mkF m 66 #[.val (.int k1), .val (.long k2), .second, .val (.int k3), .val (.int pe), .val (.int en), .val (.ref b1), .val (.int (pe + (1 : Int32))), .val (.int r1), .val (.int r2), .val (.int r3)] [(.int r3)])) (fun t_ k_ => XS.iload X6.here hx rfl (hb hby at_64) rfl k_) ?_
  refine Go.st (T' := T6) (g' := (mkF m 68 #[.val (.int k1), .val (.long k2), .second, .val (.int k3), .val (.int pe), .val (.int en), .val (.ref b1), .val (.int (pe + (1 : Int32))), .val (.int r1), .val (.int r2), .val (.int r3)] [(.int pe), (.int r3)])) (fun t_ k_ => XS.iload X6.here hx rfl (hb hby at_66) rfl k_) ?_
  refine Go.st (T' := T6) (g' := (mkF m 70 #[.val (.int k1), .val (.long k2), .second, .val (.int k3), .val (.int pe), .val (.int en), .val (.ref b1), .val (.int (pe + (1 : Int32))), .val (.int r1), .val (.int r2), .val (.int r3)] [(.int (pe + (1 : Int32))), (.int pe), (.int r3)])) (fun t_ k_ => XS.iload X6.here hx rfl (hb hby at_68) rfl k_) ?_
  refine goStatic X6 hx hZ (y := (⟨"com/example/keelstore/keelstore/layout/IndexLayoutLeadsToOlderPinLaw", "expected", "(II)Z"⟩ : MethodName)) hown (hw _ (List.mem_of_getElem? (i := 27) rfl)) (hw _ (List.mem_of_getElem? (i := 28) rfl)) (hw _ (List.mem_of_getElem? (i := 29) rfl)) (hw _ (List.mem_of_getElem? (i := 30) rfl)) (by decide) (rm5 l Z a0 hw [] n0 h2 pe (pe + (1 : Int32)) sz2) 1 (by decide) (by decide) (by rw [hml]; rfl) [(.int pe), (.int (pe + (1 : Int32)))] [(.int r3)] (lenOf pd_613c1521 rfl) rfl rfl rfl (hb hby at_70) (by decide) (by decide) fun v7 T7 h7 X7 hq7 => ?_
  obtain ⟨r5, rfl, eh7, t5⟩ := hq7
  rw [eh7] at X7
  show Go p e below _ T7 (mkF m 73 #[.val (.int k1), .val (.long k2), .second, .val (.int k3), .val (.int pe), .val (.int en), .val (.ref b1), .val (.int (pe + (1 : Int32))), .val (.int r1), .val (.int r2), .val (.int r3)] [(.int r5), (.int r3)])
  have hc73 : r3 = r5 := own_is_eq t3 t5
  refine Go.st (T' := T7) (g' := (mkF m 76 #[.val (.int k1), .val (.long k2), .second, .val (.int k3), .val (.int pe), .val (.int en), .val (.ref b1), .val (.int (pe + (1 : Int32))), .val (.int r1), .val (.int r2), .val (.int r3)] [])) (fun t_ k_ => XS.icmpNo X7.here hx rfl (hb hby at_73) rfl (teq hc73).2 k_) ?_
  refine Go.st (T' := T7) (g' := (mkF m 77 #[.val (.int k1), .val (.long k2), .second, .val (.int k3), .val (.int pe), .val (.int en), .val (.ref b1), .val (.int (pe + (1 : Int32))), .val (.int r1), .val (.int r2), .val (.int r3)] [(.int (1 : Int32))])) (fun t_ k_ => XS.iconst X7.here hx rfl (hb hby at_76) k_) ?_
  refine Go.st (T' := T7) (g' := (mkF m 81 #[.val (.int k1), .val (.long k2), .second, .val (.int k3), .val (.int pe), .val (.int en), .val (.ref b1), .val (.int (pe + (1 : Int32))), .val (.int r1), .val (.int r2), .val (.int r3)] [(.int (1 : Int32))])) (fun t_ k_ => XS.goto X7.here hx rfl (pc0 := 77) (pc' := 81) rfl (hb hby at_77) (by decide) (by decide) k_) ?_
  refine goRetZ X7 hx hlk hret (hb hby at_81) (by decide) (by decide) (Or.inr rfl) ?_
  exact rfl
set_option maxRecDepth 65536 in
set_option maxHeartbeats 40000000 in
theorem comes_1 {Post : Tables → Env → Array Value → State → Outcome → State → Prop} (hpost : ∀ tb e args s v u, (limb_1_1.after args s (.returned v) u = true ∧ limb_1_2.after args s (.returned v) u = true ∧ True) → FrameEnd s (.returned v) u (Jvm.fieldLocs frame_1_writes args s ++ Jvm.arrayLocs frame_1_arrays args s ++ Jvm.staticLocs frame_1_statics s) 16 128 → Post tb e args s (.returned v) u) :
    ArmFor flags0 classFile x code maxLocals ret World_1 tables_1 room_1 Calls_1 rest_1 Pre_1 Post := by
  intro l hfl _ _ p e ha hc hk s m args below hf hA hF happ hP
  obtain ⟨hcalls, hrest, hpre⟩ := hP
  obtain ⟨-, -, -, hnamed, -, -, -, hat⟩ := (Spec.applies_iff hf).mp happ
  obtain ⟨hg, hn⟩ := and_e (Cond.before_iff.mp (show (Jvm.Cond.and given_1 narrow_1).before args s = true from hpre))
  obtain ⟨hcnt, hg⟩ := and_e hg
  obtain ⟨ha0, hg⟩ := and_e hg
  obtain ⟨ha1, hg⟩ := and_e hg
  obtain ⟨ha2, hg⟩ := and_e hg
  obtain ⟨ha3, hg⟩ := and_e hg
  have ha4 := hg
  obtain ⟨w0, w1, w2, w3, w4, rfl⟩ : ∃ w0 w1 w2 w3 w4 : Value, args = #[w0, w1, w2, w3, w4] := by
    have hs : args.size = 5 := by simpa [Cond.value, given_1] using hcnt
    obtain ⟨L⟩ := args
    match L, hs with
    | [w0, w1, w2, w3, w4], _ => exact ⟨w0, w1, w2, w3, w4, rfl⟩
  have hw := fun d (hd : d ∈ tables_1) => atoms_spec (ws := Jvm.Cond.code x code maxLocals ret :: tables_1) hat d (List.mem_cons_of_mem _ hd)
  have hfit : Fit s := fun {y c} hc i hi => by
    obtain ⟨ha, rfl⟩ := Array.getElem?_eq_some_iff.mp hc
    have q := List.all_eq_true.mp ((Array.all_eq_true_iff_forall_mem.mp hF) _ (Array.getElem_mem ha)) i (List.mem_range.mpr hi)
    simpa [Array.getElem?_eq_getElem hi] using q
  obtain ⟨i0, ei0⟩ := is_v ha0
  obtain rfl : w0 = (.int i0) := Option.some.inj ei0
  obtain ⟨i1, ei1⟩ := isL_v ha1
  obtain rfl : w1 = (.long i1) := Option.some.inj ei1
  obtain ⟨i2, ei2⟩ := is_v ha2
  obtain rfl : w2 = (.int i2) := Option.some.inj ei2
  obtain ⟨i3, ei3⟩ := is_v ha3
  obtain rfl : w3 = (.int i3) := Option.some.inj ei3
  obtain ⟨i4, ei4⟩ := is_v ha4
  obtain rfl : w4 = (.int i4) := Option.some.inj ei4
  obtain ⟨n, o, h1, h2, h3, v, L, rfl, ⟨N, hv⟩, hq⟩ := rm0 l s _ hw tables_1 s.heap.size s.heap i0 i1 i2 i3 i4 (Nat.le_refl _) p e ha hc hk s m _ below hf ((Spec.applies_iff_loose hf).mp happ).1 ⟨rfl, State.Warmed39.refl s, rfl⟩ trivial
  obtain rfl : v = some (.int 1) := hv
  refine ⟨n, _, h1, h2, h3, hpost _ _ _ _ _ _ ⟨Cond.after_iff.mpr rfl, Cond.after_iff.mpr (eq_i res_at (Term.int_eval (1)) rfl), trivial⟩ ⟨hq.1, hq.2.1, (hq.2.2.sift fun y hy => Or.inr (N y hy)).mono (by decide) (by decide)⟩⟩
theorem main_1_1 : Claimed_1_1 := comes_1 fun _ _ _ _ _ _ h hF => ⟨h.1, hF⟩
theorem main_1_2 : Claimed_1_2 := comes_1 fun _ _ _ _ _ _ h hF => ⟨h.2.1, hF⟩
end Jvm.Pilot.@@N@@
namespace Jvm.Pilot.@@N@@
open Jvm Jvm.ClassFile Sem Op Lib Jvm.Free Jvm.Stand Jvm.Pilot.@@N@@.Jvm.D
/-! MADE BY PROGRAM (witnessworld.py) out of the Statement's table words and the real class files: 10 classes; the members and pool entries that the words name. The judged class is class 1, her method 1. -/
namespace start1
open Jvm.ClassFile
def u (s : String) : CpInfo := .utf8 (stringToUtf16 s)
/-- a pool by its gaps: so many unusable entries, then the entry; so many at the end -/
def gap : Nat → List CpInfo → List CpInfo
  | 0, r => r
  | n + 1, r => .unusable :: gap n r
def poolList (es : List (Nat × CpInfo)) (last : Nat) : List CpInfo := es.foldr (fun e r => gap e.1 (e.2 :: r)) (gap last [])
def pool (es : List (Nat × CpInfo)) (last : Nat) : Array CpInfo := ⟨poolList es last⟩
def fileOf (pool : Array CpInfo) (this : Nat) (attrs : Array Attribute := #[]) (ms : Array MethodInfo := #[]) (fl : Nat := 33) (sup : Nat := 0) (ifs : Array Nat := #[]) (fds : Array FieldInfo := #[]) : ClassFile where
  minorVersion := 0
  majorVersion := 65
  constantPool := pool
  accessFlags := fl
  thisClass := this
  superClass := sup
  interfaces := ifs
  fields := fds
  methods := ms
  attributes := attrs
def plain (name : String) (sup : Option ClassId) : Class where
  name := name
  kind := .ordinary
  loader := none
  accessFlags := 33
  super := sup
  interfaces := #[]
  cf := none
  fields := #[]
  methods := #[]
  instanceTypes := #[]
  staticTypes := #[]
  resolved := #[]
  callSites := []
  init := .initialized
  statics := none
  mirror := none

def pool0 : Array CpInfo := pool [(5, u "<init>"), (0, u "()V"), (1, .class_ 10), (1, u "java/lang/Object")] 113

def k0c0 : Code := { maxStack := 0, maxLocals := 1, code := object_method_1_code, exceptionTable := #[], attributes := #[] }
def k0m0 : Method := { name := "<init>", desc := "()V", sig := { parameters := [], returnType := none }, accessFlags := 1, code := some k0c0 }
/-- java/lang/Object -/
def k0 : Class := { plain "java/lang/Object" none with
  accessFlags := 33
  interfaces := #[]
  cf := some (fileOf pool0 8 #[] #[{ accessFlags := 1, nameIndex := 5, descriptorIndex := 6, attributes := #[] }] 33 0 #[] #[])
  fields := #[]
  methods := #[k0m0]
  instanceTypes := #[]
  staticTypes := #[]
  resolved := Array.replicate 124 none
  statics := none }

def pool1 : Array CpInfo := pool [(2, .class_ 4), (1, u "java/lang/Object"), (0, u "<init>"), (0, u "()V"), (0, .class_ 8), (0, u "com/example/keelstore/keelstore/layout/IndexLayout$Entry"), (0, .methodref 7 10), (0, .nameAndType 5 11), (0, u "(IJII)V"), (0, .methodref 7 13), (0, .nameAndType 14 15), (0, u "leadsToOlder"), (0, u "(I)Z"), (0, .methodref 17 18), (0, .class_ 19), (0, .nameAndType 20 21), (0, u "com/example/keelstore/keelstore/layout/IndexLayoutLeadsToOlderPinLaw"), (0, u "expected"), (0, u "(II)Z"), (2, u "law"), (0, u "(IJIII)Z")] 7

def k1m0 : Method := { name := "<init>", desc := "()V", sig := { parameters := [], returnType := none }, accessFlags := 2, code := none }
def k1c1 : Code := { maxStack := 7, maxLocals := 11, code := code, exceptionTable := #[], attributes := #[] }
def k1m1 : Method := { name := "law", desc := "(IJIII)Z", sig := { parameters := [.int, .long, .int, .int, .int], returnType := some .boolean }, accessFlags := 9, code := some k1c1 }
def k1c2 : Code := { maxStack := 4, maxLocals := 6, code := method_3_code, exceptionTable := #[], attributes := #[] }
def k1m2 : Method := { name := "expected", desc := "(II)Z", sig := { parameters := [.int, .int], returnType := some .boolean }, accessFlags := 10, code := some k1c2 }
/-- com/example/keelstore/keelstore/layout/IndexLayoutLeadsToOlderPinLaw -/
def k1 : Class := { plain "com/example/keelstore/keelstore/layout/IndexLayoutLeadsToOlderPinLaw" (some 0) with
  accessFlags := 49
  interfaces := #[]
  cf := some (fileOf pool1 17 #[] #[{ accessFlags := 2, nameIndex := 5, descriptorIndex := 6, attributes := #[] }, { accessFlags := 9, nameIndex := 24, descriptorIndex := 25, attributes := #[] }, { accessFlags := 10, nameIndex := 20, descriptorIndex := 21, attributes := #[] }] 49 2 #[] #[])
  fields := #[]
  methods := #[k1m0, k1m1, k1m2]
  instanceTypes := #[]
  staticTypes := #[]
  resolved := Array.replicate 33 none
  statics := none }

def pool2 : Array CpInfo := pool [(1, .methodref 2 3), (0, .class_ 4), (0, .nameAndType 5 6), (0, u "java/lang/Object"), (0, u "<init>"), (0, u "()V"), (0, .class_ 8), (0, u "java/lang/Record")] 13

def k2c0 : Code := { maxStack := 1, maxLocals := 1, code := jdk_30_method_1_code, exceptionTable := #[], attributes := #[] }
def k2m0 : Method := { name := "<init>", desc := "()V", sig := { parameters := [], returnType := none }, accessFlags := 4, code := some k2c0 }
/-- java/lang/Record -/
def k2 : Class := { plain "java/lang/Record" (some 0) with
  accessFlags := 1057
  interfaces := #[]
  cf := some (fileOf pool2 7 #[] #[{ accessFlags := 4, nameIndex := 5, descriptorIndex := 6, attributes := #[] }] 1057 2 #[] #[])
  fields := #[]
  methods := #[k2m0]
  instanceTypes := #[]
  staticTypes := #[]
  resolved := Array.replicate 22 none
  statics := none }

def pool3 : Array CpInfo := pool [(1, .class_ 2), (0, u "com/example/keelstore/keelstore/layout/IndexLayout"), (0, .methodref 4 5), (0, .class_ 6), (0, .nameAndType 7 8), (0, u "java/lang/Record"), (0, u "<init>"), (0, u "()V"), (0, .fieldref 10 11), (0, .class_ 12), (0, .nameAndType 13 14), (0, u "com/example/keelstore/keelstore/layout/IndexLayout$Entry"), (0, u "keyHash"), (0, u "I"), (0, .fieldref 10 16), (0, .nameAndType 17 18), (0, u "physicalOffset"), (0, u "J"), (0, .fieldref 10 20), (0, .nameAndType 21 14), (0, u "seconds"), (0, .fieldref 10 23), (0, .nameAndType 24 14), (0, u "previousEntry"), (15, u "(IJII)V"), (21, u "SIZE"), (2, u "KEY_HASH"), (1, u "PHYSICAL_OFFSET"), (1, u "SECONDS"), (1, u "PREVIOUS_ENTRY"), (6, u "leadsToOlder"), (0, u "(I)Z")] 32

def k3c0 : Code := { maxStack := 3, maxLocals := 6, code := prog_30_method_1_code, exceptionTable := #[], attributes := #[] }
def k3m0 : Method := { name := "<init>", desc := "(IJII)V", sig := { parameters := [.int, .long, .int, .int], returnType := none }, accessFlags := 1, code := some k3c0 }
def k3c1 : Code := { maxStack := 2, maxLocals := 2, code := prog_30_method_3_code, exceptionTable := #[], attributes := #[] }
def k3m1 : Method := { name := "leadsToOlder", desc := "(I)Z", sig := { parameters := [.int], returnType := some .boolean }, accessFlags := 1, code := some k3c1 }
/-- com/example/keelstore/keelstore/layout/IndexLayout$Entry -/
def k3 : Class := { plain "com/example/keelstore/keelstore/layout/IndexLayout$Entry" (some 2) with
  accessFlags := 49
  interfaces := #[]
  cf := some (fileOf pool3 10 #[.nestHost 1] #[{ accessFlags := 1, nameIndex := 7, descriptorIndex := 40, attributes := #[] }, { accessFlags := 1, nameIndex := 78, descriptorIndex := 79, attributes := #[] }] 49 4 #[] #[{ accessFlags := 18, nameIndex := 13, descriptorIndex := 14, attributes := #[] }, { accessFlags := 18, nameIndex := 17, descriptorIndex := 18, attributes := #[] }, { accessFlags := 18, nameIndex := 21, descriptorIndex := 14, attributes := #[] }, { accessFlags := 18, nameIndex := 24, descriptorIndex := 14, attributes := #[] }, { accessFlags := 25, nameIndex := 62, descriptorIndex := 14, attributes := #[] }, { accessFlags := 26, nameIndex := 65, descriptorIndex := 14, attributes := #[] }, { accessFlags := 26, nameIndex := 67, descriptorIndex := 14, attributes := #[] }, { accessFlags := 26, nameIndex := 69, descriptorIndex := 14, attributes := #[] }, { accessFlags := 26, nameIndex := 71, descriptorIndex := 14, attributes := #[] }])
  fields := #[{ name := "keyHash", type := .int, accessFlags := 18, slot := 0, constantValue := 0 }, { name := "physicalOffset", type := .long, accessFlags := 18, slot := 1, constantValue := 0 }, { name := "seconds", type := .int, accessFlags := 18, slot := 2, constantValue := 0 }, { name := "previousEntry", type := .int, accessFlags := 18, slot := 3, constantValue := 0 }, { name := "SIZE", type := .int, accessFlags := 25, slot := 0, constantValue := 0 }, { name := "KEY_HASH", type := .int, accessFlags := 26, slot := 1, constantValue := 0 }, { name := "PHYSICAL_OFFSET", type := .int, accessFlags := 26, slot := 2, constantValue := 0 }, { name := "SECONDS", type := .int, accessFlags := 26, slot := 3, constantValue := 0 }, { name := "PREVIOUS_ENTRY", type := .int, accessFlags := 26, slot := 4, constantValue := 0 }]
  methods := #[k3m0, k3m1]
  instanceTypes := #[.int, .long, .int, .int]
  staticTypes := #[.int, .int, .int, .int, .int]
  resolved := Array.replicate 112 none
  statics := none }

def pool4 : Array CpInfo := pool [(1, u "java/lang/Cloneable"), (0, .class_ 1), (0, u "java/lang/Object"), (0, .class_ 3)] 3

/-- java/lang/Cloneable -/
def k4 : Class := { plain "java/lang/Cloneable" (some 0) with
  accessFlags := 1537
  interfaces := #[]
  cf := some (fileOf pool4 2 #[] #[] 1537 4 #[] #[])
  fields := #[]
  methods := #[]
  instanceTypes := #[]
  staticTypes := #[]
  resolved := Array.replicate 8 none
  statics := none }

def pool5 : Array CpInfo := pool [(1, u "java/io/Serializable"), (0, .class_ 1), (0, u "java/lang/Object"), (0, .class_ 3)] 3

/-- java/io/Serializable -/
def k5 : Class := { plain "java/io/Serializable" (some 0) with
  accessFlags := 1537
  interfaces := #[]
  cf := some (fileOf pool5 2 #[] #[] 1537 4 #[] #[])
  fields := #[]
  methods := #[]
  instanceTypes := #[]
  staticTypes := #[]
  resolved := Array.replicate 8 none
  statics := none }

/-- the primitive byte -/
def k6 : Class := { plain "byte" none with kind := .primitive 'B', accessFlags := 0x411 }
/-- [B -/
def k7 : Class := { plain "[B" (some 0) with kind := .array 6 .byte, interfaces := #[4, 5], accessFlags := 1041 }

/-- the primitive int -/
def k8 : Class := { plain "int" none with kind := .primitive 'I', accessFlags := 0x411 }
/-- [I -/
def k9 : Class := { plain "[I" (some 0) with kind := .array 8 .int, interfaces := #[4, 5], accessFlags := 1041 }

def heap : Heap := #[]
def classes : Array Class := #[k0, k1, k2, k3, k4, k5, k6, k7, k8, k9]
def interned : List (Array UInt16 × Addr) := []
def slotsUsed : Nat := 0
def theMethod : MethodId := ⟨1, 1⟩
def args0 : Array Value := #[.int 5, .long 1, .int 1, .int 1, .int 2]
def aboutOver (below : List Frame) : State where
  vm := { classes := classes, interned := interned.toArray }
  heap := heap
  slotsUsed := slotsUsed
  threads := #[{ frames := .invoking theMethod args0 :: below }]
def below0 : List Frame := [.native { method := ⟨0, 0⟩, args := #[] }]
def about1 : State := aboutOver below0
def p0 : Program := .bare "" "" ""
def e0 : Env := launch0.env 0 0 0
theorem w_frames : about1.frames = Frame.invoking theMethod args0 :: below0 := rfl
set_option maxRecDepth 65536 in
theorem w_args : argsFit about1.vm theMethod args0 = true := by decide +kernel
set_option maxRecDepth 65536 in
theorem w_heap : heapFits about1 = true := by decide +kernel
set_option maxRecDepth 65536 in
theorem w_runnable : about1.curStatus? = some .runnable := by decide +kernel
set_option maxRecDepth 65536 in
theorem w_alone : about1.alone = true := by decide +kernel
set_option maxRecDepth 65536 in
theorem w_named : about1.methodNamed? x = some theMethod := by decide +kernel
set_option maxRecDepth 65536 in
theorem w_hears : about1.hears theMethod below0 = true := by decide +kernel
set_option maxRecDepth 65536 in
theorem w_ripe : about1.ripe theMethod args0 below0 = true := by decide +kernel
theorem w_running : about1.status = .running := rfl
set_option maxRecDepth 65536 in
theorem w_room : about1.hasRoom e0.platform room_1 = true :=
  launch0.hasRoom_least _ room_1 (by decide +kernel) (by decide +kernel) (by decide +kernel) (by decide +kernel) (by decide +kernel) (by decide +kernel)
theorem allAtoms_all (ts : List Jvm.Cond) (a : Array Jvm.Value) (st : Jvm.State) : (allAtoms ts).before a st = ts.all (fun c => c.before a st) := by
  induction ts with
  | nil => rfl
  | cons c t ih =>
    show (Jvm.Cond.and c (allAtoms t)).before a st = _
    rw [Jvm.Cond.before_and, ih, List.all_cons]
def words1 : List Jvm.Cond := Jvm.Cond.code x code maxLocals ret :: tables_1
/-- a 'code' word, met by the world's own term for the bytes: nothing is compared byte by byte -/
theorem code_word {y : MethodName} {bytes : ByteArray} {mx : Nat} {rt : Option FieldType} {a : Array Value} {s : State} {m : MethodId} {meth : Method} {c : Code} (h1 : s.methodNamed? y = some m) (h2 : s.vm.method? m = some meth) (h3 : meth.code = some c) (h4 : c.code = bytes)
    (h5 : (c.maxLocals == mx && c.exceptionTable.isEmpty && decide (c.maxStack ≤ mostOperands) && decide (meth.sig.returnType = rt) && !meth.locks && decide (parseMethodDescriptor y.desc = some meth.sig)) = true) : (Jvm.Cond.code y bytes mx rt).before a s = true := by
  simp only [Bool.and_eq_true, beq_iff_eq, Bool.not_eq_true', decide_eq_true_eq] at h5
  obtain ⟨⟨⟨⟨⟨g1, g2⟩, g3⟩, g4⟩, g5⟩, g6⟩ := h5
  simp [Cond.before, Cond.holds, Cond.value, h1, h2, h3, h4, g1, g2, g3, g4, g5, g6]
def isCode : Jvm.Cond → Bool
  | .code _ _ _ _ => true
  | _ => false
theorem all_split {L : List Jvm.Cond} {P : Jvm.Cond → Bool} (h1 : L.all (fun c => isCode c || P c) = true) (h2 : ∀ c ∈ L.filter isCode, P c = true) : L.all P = true := by
  refine List.all_eq_true.mpr fun c hc => ?_
  have h := List.all_eq_true.mp h1 c hc
  rcases Bool.eq_false_or_eq_true (isCode c) with hi | hi
  · exact h2 c (List.mem_filter.mpr ⟨hc, hi⟩)
  · simpa [hi] using h
set_option maxRecDepth 65536 in
theorem w_c0 : (Jvm.Cond.code x code maxLocals ret).before args0 about1 = true := code_word (m := ⟨1, 1⟩) (meth := k1m1) (c := k1c1) (by decide +kernel) rfl rfl rfl (by decide +kernel)
set_option maxRecDepth 65536 in
theorem w_c1 : (Jvm.Cond.code ({ cls := "com/example/keelstore/keelstore/layout/IndexLayout$Entry", name := "<init>", desc := "(IJII)V" } : Jvm.MethodName) prog_30_method_1_code (6 : Nat) (Option.none : Option Jvm.ClassFile.FieldType)).before args0 about1 = true := code_word (m := ⟨3, 0⟩) (meth := k3m0) (c := k3c0) (by decide +kernel) rfl rfl rfl (by decide +kernel)
set_option maxRecDepth 65536 in
theorem w_c2 : (Jvm.Cond.code ({ cls := "java/lang/Record", name := "<init>", desc := "()V" } : Jvm.MethodName) jdk_30_method_1_code (1 : Nat) (Option.none : Option Jvm.ClassFile.FieldType)).before args0 about1 = true := code_word (m := ⟨2, 0⟩) (meth := k2m0) (c := k2c0) (by decide +kernel) rfl rfl rfl (by decide +kernel)
set_option maxRecDepth 65536 in
theorem w_c3 : (Jvm.Cond.code ({ cls := "java/lang/Object", name := "<init>", desc := "()V" } : Jvm.MethodName) object_method_1_code (1 : Nat) (Option.none : Option Jvm.ClassFile.FieldType)).before args0 about1 = true := code_word (m := ⟨0, 0⟩) (meth := k0m0) (c := k0c0) (by decide +kernel) rfl rfl rfl (by decide +kernel)
set_option maxRecDepth 65536 in
theorem w_c4 : (Jvm.Cond.code ({ cls := "com/example/keelstore/keelstore/layout/IndexLayout$Entry", name := "leadsToOlder", desc := "(I)Z" } : Jvm.MethodName) prog_30_method_3_code (2 : Nat) (Option.some Jvm.ClassFile.FieldType.boolean)).before args0 about1 = true := code_word (m := ⟨3, 1⟩) (meth := k3m1) (c := k3c1) (by decide +kernel) rfl rfl rfl (by decide +kernel)
set_option maxRecDepth 65536 in
theorem w_c5 : (Jvm.Cond.code ({ cls := "com/example/keelstore/keelstore/layout/IndexLayoutLeadsToOlderPinLaw", name := "expected", desc := "(II)Z" } : Jvm.MethodName) method_3_code (6 : Nat) (Option.some Jvm.ClassFile.FieldType.boolean)).before args0 about1 = true := code_word (m := ⟨1, 2⟩) (meth := k1m2) (c := k1c2) (by decide +kernel) rfl rfl rfl (by decide +kernel)
def codes1 : List Jvm.Cond := [Jvm.Cond.code x code maxLocals ret, Jvm.Cond.code ({ cls := "com/example/keelstore/keelstore/layout/IndexLayout$Entry", name := "<init>", desc := "(IJII)V" } : Jvm.MethodName) prog_30_method_1_code (6 : Nat) (Option.none : Option Jvm.ClassFile.FieldType), Jvm.Cond.code ({ cls := "java/lang/Record", name := "<init>", desc := "()V" } : Jvm.MethodName) jdk_30_method_1_code (1 : Nat) (Option.none : Option Jvm.ClassFile.FieldType), Jvm.Cond.code ({ cls := "java/lang/Object", name := "<init>", desc := "()V" } : Jvm.MethodName) object_method_1_code (1 : Nat) (Option.none : Option Jvm.ClassFile.FieldType), Jvm.Cond.code ({ cls := "com/example/keelstore/keelstore/layout/IndexLayout$Entry", name := "leadsToOlder", desc := "(I)Z" } : Jvm.MethodName) prog_30_method_3_code (2 : Nat) (Option.some Jvm.ClassFile.FieldType.boolean), Jvm.Cond.code ({ cls := "com/example/keelstore/keelstore/layout/IndexLayoutLeadsToOlderPinLaw", name := "expected", desc := "(II)Z" } : Jvm.MethodName) method_3_code (6 : Nat) (Option.some Jvm.ClassFile.FieldType.boolean)]
set_option maxRecDepth 65536 in
theorem codes_eq : words1.filter isCode = codes1 := rfl
theorem w_codes : ∀ c ∈ words1.filter isCode, c.before args0 about1 = true := by
  rw [codes_eq]
  intro c hc
  simp only [codes1, List.mem_cons, List.not_mem_nil, or_false] at hc
  rcases hc with rfl | rfl | rfl | rfl | rfl | rfl
  · exact w_c0
  · exact w_c1
  · exact w_c2
  · exact w_c3
  · exact w_c4
  · exact w_c5
set_option maxRecDepth 65536 in
theorem w_t1 : (words1.take 24).all (fun c => isCode c || c.before args0 about1) = true := by decide +kernel
set_option maxRecDepth 65536 in
theorem w_t2 : (words1.drop 24).all (fun c => isCode c || c.before args0 about1) = true := by decide +kernel
theorem w_tables : (allAtoms (Jvm.Cond.code x code maxLocals ret :: tables_1)).before args0 about1 = true := by
  rw [allAtoms_all]
  show words1.all (fun c => c.before args0 about1) = true
  refine all_split ?_ w_codes
  rw [← List.take_append_drop 24 words1, List.all_append, w_t1, w_t2]
  rfl
set_option maxRecDepth 65536 in
theorem w_case : (Jvm.Cond.and given_1 narrow_1).before args0 about1 = true := by decide +kernel
theorem w_applies : (headSpec (Jvm.Cond.code x code maxLocals ret :: tables_1) room_1).applies x e0.platform about1 = true :=
  (Spec.applies_iff w_frames).mpr ⟨w_running, w_runnable, w_alone, w_named, w_hears, w_ripe, w_room, w_tables⟩
theorem atStart : AtStart classFile x code maxLocals ret World_1 tables_1 room_1 Calls_1 rest_1 Pre_1 launch0 p0 e0 about1 theMethod args0 below0 :=
  ⟨lists_1, trivial, launch0.admits_env _ _ _, launch0.least_env, fairChoices_fair.cas, fairChoices_fair.clock, w_frames, w_args, w_heap, w_applies, trivial, trivial, w_case⟩
end start1
theorem witness_1 : WitnessClaimed_1 := ⟨start1.p0, start1.e0, start1.about1, start1.theMethod, start1.args0, start1.below0, start1.atStart⟩
end Jvm.Pilot.@@N@@
