import JvmDerived
import JvmDerived.Pilot.@@N@@Statement
import JvmDerived.Pilot.@@N@@Code
set_option linter.unusedVariables false
set_option linter.unusedSimpArgs false
namespace Jvm.RoadKit
open Sem ClassFile Op Lib Jvm.Stand Jvm.Free Jvm.LawKit
section New
variable {p : Program} {l : Launch} {e : Env} {R : Room} {s : State} {m : MethodId} {args : Array Value} {below : List Frame} {meth : Method} {c : Code} {T : State} {locs : List Loc} {cells slots : Nat}
theorem retI (X : Stand p l e R s m args below meth c T locs cells slots) (hx : p.tables.exec = Jvm.exec) {pc : Nat} {Ls : Array Slot} {z : Int32} {rest : List Value} (hret : meth.sig.returnType = some .int) (hd : decode c.code pc = .ok (.ireturn, 1)) {fs : List Frame}
    (hl : ∀ (f : JFrame) (acts : List Action), f.method = m → f.locked = none → f.entered = [] → (doReturn e (T.setTop f) acts (some (.int z))).1 = T.setFrames fs) : Steps p.tables e below (T.setTop (mkF m pc Ls (.int z :: rest))) (T.setFrames fs) := by
  have hm' : T.vm.method? m = some meth := X.method'
  have hn : narrow .int (.int z) = .int z := rfl
  show Steps p.tables e below (T.setTop { method := m, pc := pc, locals := Ls, stack := _ :: rest, locked := none }) _
  jvm_step X.here [X.here.top, hx, hd, hm', hret, hn]
  first | (intro acts; rw [hl _ acts rfl rfl rfl]) | rw [hl _ _ rfl rfl rfl]
  exact Steps.refl _
end New
end Jvm.RoadKit
namespace Jvm.Pilot.@@N@@
open Jvm Jvm.ClassFile Sem Op Lib Jvm.Free Jvm.Stand Jvm.LawKit Jvm.RoadKit Bundle Jvm.Pilot.@@N@@.Jvm.D
section OwnKit
variable {p : Program} {l : Launch} {e : Env} {R : Room} {s : State} {m : MethodId} {args : Array Value} {below : List Frame} {meth : Method} {c : Code} {Z : State} {own nm : String} {bytes : ByteArray} {maxL : Nat} {rt : Option FieldType} {n0 : Nat} {h0 : Heap} {ws : List Addr} {Q : Option Value → Heap → Prop} {cells slots : Nat} {h : Heap} {pc pc' : Nat} {ls ls' : Array Slot} {st : List Value} {a0 : Array Value}
/-- what is fixed in a body -/
def Cx (p : Program) (s : State) (m : MethodId) (meth : Method) (c : Code) (Z : State) (own nm : String) (bytes : ByteArray) (maxL : Nat) (rt : Option FieldType) (n0 : Nat) (h0 : Heap) (ws : List Addr) : Prop :=
  (p.tables.exec = Jvm.exec ∧ c.code = bytes ∧ c.maxLocals = maxL ∧ s.vm.findClass own = some m.cls ∧ Z.Warmed39 s.vm) ∧ (meth.sig.returnType = rt ∧ meth.locks = false ∧ meth.name = nm ∧ n0 ≤ h0.size ∧ ∀ x ∈ ws, n0 ≤ x)
/-- from every state that stands here with the heap h at the frame g, the run returns and Q holds at the end -/
def G (p : Program) (l : Launch) (e : Env) (R : Room) (s : State) (m : MethodId) (args : Array Value) (below : List Frame) (meth : Method) (c : Code) (n0 : Nat) (h0 : Heap) (ws : List Addr) (Q : Option Value → Heap → Prop) (cells slots : Nat) (h : Heap) (g : JFrame) : Prop :=
  ∀ (T : State) (locs : List Loc) (k n : Nat), Stand p l e R s m args below meth c T locs k n → k ≤ cells → n ≤ slots → T.heap = h → Fr n0 locs → Keep h0 h ws →
    ∃ (U : State) (v : Option Value) (L : List Loc), Steps p.tables e below (T.setTop g) U ∧ U.status = .running ∧ Ended U below (.returned v) ∧ (Fr n0 L ∧ Keep h0 U.heap ws ∧ Q v U.heap) ∧ FrameEnd s (.returned v) U L R.cells R.slots
/-- the contract of a callee: called with these arguments at this heap it returns, writes old cells of ws alone, and Q holds -/
def Mt (l : Launch) (Z : State) (y : MethodName) (bytes : ByteArray) (maxL : Nat) (rt : Option FieldType) (cs : List Jvm.Cond) (rm : Room) (n0 : Nat) (as' : Array Value) (h : Heap) (ws : List Addr) (Q : Option Value → Heap → Prop) : Prop :=
  MetFree l y (head1 (Jvm.Cond.code y bytes maxL rt :: cs) rm) (fun a U => a = as' ∧ Z.Warmed39 U.vm ∧ U.heap = h) (fun _ _ _ _ _ => True) (fun _ U o U' => ∃ v L, o = .returned v ∧ (Fr n0 L ∧ Keep h U'.heap ws ∧ Q v U'.heap) ∧ FrameEnd U o U' L rm.cells rm.slots)
def RV (Q : Heap → Prop) : Option Value → Heap → Prop := fun v h => v = none ∧ Q h
def RI (Q : Int32 → Heap → Prop) : Option Value → Heap → Prop := fun v h => ∃ z : Int32, v = some (.int z) ∧ Q z h
def RJ (Q : Int64 → Heap → Prop) : Option Value → Heap → Prop := fun v h => ∃ z : Int64, v = some (.long z) ∧ Q z h
def RA (Q : Addr → Heap → Prop) : Option Value → Heap → Prop := fun v h => ∃ z : Addr, v = some (.ref z) ∧ Q z h
theorem G.mono {g : JFrame} {cells' slots' : Nat} (hc : cells ≤ cells') (hs : slots ≤ slots') (kk : G p l e R s m args below meth c n0 h0 ws Q cells' slots' h g) : G p l e R s m args below meth c n0 h0 ws Q cells slots h g := fun T locs k n X hk hn eT N K => kk T locs k n X (Nat.le_trans hk hc) (Nat.le_trans hn hs) eT N K
theorem G.stepX {g g' : JFrame} (stp : ∀ T locs k n t, Stand p l e R s m args below meth c T locs k n → T.heap = h → Steps p.tables e below (T.setTop g') t → Steps p.tables e below (T.setTop g) t) (kk : G p l e R s m args below meth c n0 h0 ws Q cells slots h g') : G p l e R s m args below meth c n0 h0 ws Q cells slots h g := fun T locs k n X hk hn eT N K => by
  obtain ⟨U, v, L, hs, r⟩ := kk T locs k n X hk hn eT N K
  exact ⟨U, v, L, stp T locs k n U X eT hs, r⟩
theorem G.stepT {g g' : JFrame} (stp : ∀ T locs k n, Stand p l e R s m args below meth c T locs k n → T.heap = h → ∃ T', Stand p l e R s m args below meth c T' locs k n ∧ T'.heap = h ∧ ∀ t, Steps p.tables e below (T'.setTop g') t → Steps p.tables e below (T.setTop g) t) (kk : G p l e R s m args below meth c n0 h0 ws Q cells slots h g') : G p l e R s m args below meth c n0 h0 ws Q cells slots h g := fun T locs k n X hk hn eT N K => by
  obtain ⟨T', X', e', stp'⟩ := stp T locs k n X eT
  obtain ⟨U, v, L, hs, r⟩ := kk T' locs k n X' hk hn e' N K
  exact ⟨U, v, L, stp' U hs, r⟩
theorem own_fr {a : Addr} (B : Cx p s m meth c Z own nm bytes maxL rt n0 h0 ws) (ha : a ∈ ws ∨ h0.size ≤ a) : n0 ≤ a := ha.elim (B.2.2.2.2.2 a) (Nat.le_trans B.2.2.2.2.1)
theorem G.wr {g g' : JFrame} {a : Addr} {sl : Nat} {v : Value} (B : Cx p s m meth c Z own nm bytes maxL rt n0 h0 ws) (ha : a ∈ ws ∨ h0.size ≤ a) (stp : ∀ T locs k n, Stand p l e R s m args below meth c T locs k n → T.heap = h → ∃ T' h', Stand p l e R s m args below meth c T' (locs ++ [⟨a, sl⟩]) k n ∧ T'.heap = h' ∧ Wr h h' a sl v ∧ ∀ t, Steps p.tables e below (T'.setTop g') t → Steps p.tables e below (T.setTop g) t) (kk : ∀ h', Wr h h' a sl v → G p l e R s m args below meth c n0 h0 ws Q cells slots h' g') : G p l e R s m args below meth c n0 h0 ws Q cells slots h g := fun T locs k n X hk hn eT N K => by
  obtain ⟨T', h', X', e', W, stp'⟩ := stp T locs k n X eT
  obtain ⟨U, v, L, hs, r⟩ := kk h' W T' _ k n X' hk hn e' (Fr.snoc X' N (own_fr B ha)) (K.wr W ha)
  exact ⟨U, v, L, stp' U hs, r⟩
theorem G.out {g : JFrame} {v : Option Value} (B : Cx p s m meth c Z own nm bytes maxL rt n0 h0 ws) (hv : rt = none → v = none) (hc : cells ≤ R.cells) (hs : slots ≤ R.slots) (hQ : Q v h)
    (stp : ∀ T locs k n fs, Stand p l e R s m args below meth c T locs k n → (∀ (f : JFrame) (acts : List Action), f.method = m → f.locked = none → f.entered = [] → (doReturn e (T.setTop f) acts v).1 = T.setFrames fs) → Steps p.tables e below (T.setTop g) (T.setFrames fs)) : G p l e R s m args below meth c n0 h0 ws Q cells slots h g := fun T locs k n X hk hn eT N K => by
  obtain ⟨fs, hr, hrun, hended, hW, hsame⟩ := X.leave (v := v) (fun q => hv (B.2.1.symm.trans q)) B.2.2.1
  refine ⟨T.setFrames fs, v, locs, stp T locs k n fs X hr, hrun, hended, ⟨N, ?_, ?_⟩, ⟨_, rfl⟩, hW, hsame.mono (Nat.le_trans hk hc) (Nat.le_trans hn hs)⟩
  · show Keep h0 T.heap ws
    rw [eT]; exact K
  · show Q v T.heap
    rw [eT]; exact hQ
theorem Mt.intro {y : MethodName} {cs : List Jvm.Cond} {as' : Array Value} (hpl : plainFor y = true) (hn : n0 ≤ h0.size) (hws : ∀ x ∈ ws, n0 ≤ x)
    (body : ∀ p e s m below meth c, Cx p s m meth c Z y.cls y.name bytes maxL rt n0 h0 ws → G p l e R s m as' below meth c n0 h0 ws Q 0 0 h0 (entryFrame m as' maxL)) : Mt l Z y bytes maxL rt cs R n0 as' h0 ws Q := by
  refine MetFree.of_bodySF hpl hisR ?_
  intro p e s m args below meth c s₁ Bd hml0 hP hK
  obtain ⟨rfl, hZ, hh⟩ := hP
  have B : Cx p s m meth c Z y.cls y.name bytes maxL rt n0 h0 ws := ⟨⟨Bd.exec, Bd.bytes, hml0, findClass_of_methodNamed Bd.named, hZ⟩, Bd.returns, Bd.notSynchronized, (name_of_methodNamed Bd.named Bd.method).1, hn, hws⟩
  have X0 : Stand p l e R s m args below meth c s₁ [] 0 0 := Stand.of_body Bd
  have e0 : s₁.heap = h0 := by rw [← hh, Bd.state]; rfl
  obtain ⟨U, v, L, hs, h1, h2, h3, h4⟩ := body p e s m below meth c B s₁ [] 0 0 X0 (Nat.le_refl _) (Nat.le_refl _) e0 (Fr.nil n0) (Keep.refl _ _)
  exact ⟨U, _, hs, h1, h2, v, L, rfl, h3, h4⟩
theorem G.entry {g g' : JFrame} (q : g = g') (kk : G p l e R s m args below meth c n0 h0 ws Q cells slots h g') : G p l e R s m args below meth c n0 h0 ws Q cells slots h g := q ▸ kk
theorem G.iloadN {k : Fin 4} {v : Int32} (B : Cx p s m meth c Z own nm bytes maxL rt n0 h0 ws) (hd : decode bytes pc = .ok (.iload_n k, 1)) (hl : ls[k.val]? = some (.val (.int v))) (hp : pc + 1 = pc') (kk : G p l e R s m args below meth c n0 h0 ws Q cells slots h (mkF m pc' ls (.int v :: st))) : G p l e R s m args below meth c n0 h0 ws Q cells slots h (mkF m pc ls st) := by
  subst hp
  exact G.stepX (fun T locs k n t X _ q => XS.iloadN X.here B.1.1 rfl (hb B.1.2.1 hd) hl q) kk
theorem G.iload {k : Nat} {v : Int32} (B : Cx p s m meth c Z own nm bytes maxL rt n0 h0 ws) (hd : decode bytes pc = .ok (.iload k, 2)) (hl : ls[k]? = some (.val (.int v))) (hp : pc + 2 = pc') (kk : G p l e R s m args below meth c n0 h0 ws Q cells slots h (mkF m pc' ls (.int v :: st))) : G p l e R s m args below meth c n0 h0 ws Q cells slots h (mkF m pc ls st) := by
  subst hp
  exact G.stepX (fun T locs k n t X _ q => XS.iload X.here B.1.1 rfl (hb B.1.2.1 hd) hl q) kk
theorem G.lloadN {k : Fin 4} {v : Int64} (B : Cx p s m meth c Z own nm bytes maxL rt n0 h0 ws) (hd : decode bytes pc = .ok (.lload_n k, 1)) (hl : ls[k.val]? = some (.val (.long v))) (hp : pc + 1 = pc') (kk : G p l e R s m args below meth c n0 h0 ws Q cells slots h (mkF m pc' ls (.long v :: st))) : G p l e R s m args below meth c n0 h0 ws Q cells slots h (mkF m pc ls st) := by
  subst hp
  exact G.stepX (fun T locs k n t X _ q => XS.lloadN X.here B.1.1 rfl (hb B.1.2.1 hd) hl q) kk
theorem G.lload {k : Nat} {v : Int64} (B : Cx p s m meth c Z own nm bytes maxL rt n0 h0 ws) (hd : decode bytes pc = .ok (.lload k, 2)) (hl : ls[k]? = some (.val (.long v))) (hp : pc + 2 = pc') (kk : G p l e R s m args below meth c n0 h0 ws Q cells slots h (mkF m pc' ls (.long v :: st))) : G p l e R s m args below meth c n0 h0 ws Q cells slots h (mkF m pc ls st) := by
  subst hp
  exact G.stepX (fun T locs k n t X _ q => XS.lload X.here B.1.1 rfl (hb B.1.2.1 hd) hl q) kk
theorem G.aloadN {k : Fin 4} {v : Value} (B : Cx p s m meth c Z own nm bytes maxL rt n0 h0 ws) (hd : decode bytes pc = .ok (.aload_n k, 1)) (hl : ls[k.val]? = some (.val v)) (hv : v.isRef = true) (hp : pc + 1 = pc') (kk : G p l e R s m args below meth c n0 h0 ws Q cells slots h (mkF m pc' ls (v :: st))) : G p l e R s m args below meth c n0 h0 ws Q cells slots h (mkF m pc ls st) := by
  subst hp
  exact G.stepX (fun T locs k n t X _ q => XS.aloadN X.here B.1.1 rfl (hb B.1.2.1 hd) hl hv q) kk
theorem G.aload {k : Nat} {v : Value} (B : Cx p s m meth c Z own nm bytes maxL rt n0 h0 ws) (hd : decode bytes pc = .ok (.aload k, 2)) (hl : ls[k]? = some (.val v)) (hv : v.isRef = true) (hp : pc + 2 = pc') (kk : G p l e R s m args below meth c n0 h0 ws Q cells slots h (mkF m pc' ls (v :: st))) : G p l e R s m args below meth c n0 h0 ws Q cells slots h (mkF m pc ls st) := by
  subst hp
  exact G.stepX (fun T locs k n t X _ q => XS.aload X.here B.1.1 rfl (hb B.1.2.1 hd) hl hv q) kk
theorem G.istoreN {k : Fin 4} {v : Int32} (B : Cx p s m meth c Z own nm bytes maxL rt n0 h0 ws) (hd : decode bytes pc = .ok (.istore_n k, 1)) (hl : storeLocals ls k.val (.int v) = some ls') (hp : pc + 1 = pc') (kk : G p l e R s m args below meth c n0 h0 ws Q cells slots h (mkF m pc' ls' st)) : G p l e R s m args below meth c n0 h0 ws Q cells slots h (mkF m pc ls (.int v :: st)) := by
  subst hp
  exact G.stepX (fun T locs k n t X _ q => XS.istoreN X.here B.1.1 rfl (hb B.1.2.1 hd) rfl hl q) kk
theorem G.istore {k : Nat} {v : Int32} (B : Cx p s m meth c Z own nm bytes maxL rt n0 h0 ws) (hd : decode bytes pc = .ok (.istore k, 2)) (hl : storeLocals ls k (.int v) = some ls') (hp : pc + 2 = pc') (kk : G p l e R s m args below meth c n0 h0 ws Q cells slots h (mkF m pc' ls' st)) : G p l e R s m args below meth c n0 h0 ws Q cells slots h (mkF m pc ls (.int v :: st)) := by
  subst hp
  exact G.stepX (fun T locs k n t X _ q => XS.istore X.here B.1.1 rfl (hb B.1.2.1 hd) rfl hl q) kk
theorem G.lstoreN {k : Fin 4} {v : Int64} (B : Cx p s m meth c Z own nm bytes maxL rt n0 h0 ws) (hd : decode bytes pc = .ok (.lstore_n k, 1)) (hl : storeLocals ls k.val (.long v) = some ls') (hp : pc + 1 = pc') (kk : G p l e R s m args below meth c n0 h0 ws Q cells slots h (mkF m pc' ls' st)) : G p l e R s m args below meth c n0 h0 ws Q cells slots h (mkF m pc ls (.long v :: st)) := by
  subst hp
  exact G.stepX (fun T locs k n t X _ q => XS.lstoreN X.here B.1.1 rfl (hb B.1.2.1 hd) rfl hl q) kk
theorem G.lstore {k : Nat} {v : Int64} (B : Cx p s m meth c Z own nm bytes maxL rt n0 h0 ws) (hd : decode bytes pc = .ok (.lstore k, 2)) (hl : storeLocals ls k (.long v) = some ls') (hp : pc + 2 = pc') (kk : G p l e R s m args below meth c n0 h0 ws Q cells slots h (mkF m pc' ls' st)) : G p l e R s m args below meth c n0 h0 ws Q cells slots h (mkF m pc ls (.long v :: st)) := by
  subst hp
  exact G.stepX (fun T locs k n t X _ q => XS.lstore X.here B.1.1 rfl (hb B.1.2.1 hd) rfl hl q) kk
theorem G.astoreN {k : Fin 4} {v : Value} (B : Cx p s m meth c Z own nm bytes maxL rt n0 h0 ws) (hd : decode bytes pc = .ok (.astore_n k, 1)) (hv : v.isRef = true) (hl : storeLocals ls k.val v = some ls') (hp : pc + 1 = pc') (kk : G p l e R s m args below meth c n0 h0 ws Q cells slots h (mkF m pc' ls' st)) : G p l e R s m args below meth c n0 h0 ws Q cells slots h (mkF m pc ls (v :: st)) := by
  subst hp
  exact G.stepX (fun T locs k n t X _ q => XS.astoreN X.here B.1.1 rfl (hb B.1.2.1 hd) rfl hv hl q) kk
theorem G.astore {k : Nat} {v : Value} (B : Cx p s m meth c Z own nm bytes maxL rt n0 h0 ws) (hd : decode bytes pc = .ok (.astore k, 2)) (hv : v.isRef = true) (hl : storeLocals ls k v = some ls') (hp : pc + 2 = pc') (kk : G p l e R s m args below meth c n0 h0 ws Q cells slots h (mkF m pc' ls' st)) : G p l e R s m args below meth c n0 h0 ws Q cells slots h (mkF m pc ls (v :: st)) := by
  subst hp
  exact G.stepX (fun T locs k n t X _ q => XS.astore X.here B.1.1 rfl (hb B.1.2.1 hd) rfl hv hl q) kk
theorem G.iconst {i : Int} {z : Int32} (B : Cx p s m meth c Z own nm bytes maxL rt n0 h0 ws) (hd : decode bytes pc = .ok (.iconst i, 1)) (hz : Int32.ofInt i = z) (hp : pc + 1 = pc') (kk : G p l e R s m args below meth c n0 h0 ws Q cells slots h (mkF m pc' ls (.int z :: st))) : G p l e R s m args below meth c n0 h0 ws Q cells slots h (mkF m pc ls st) := by
  subst hp hz
  exact G.stepX (fun T locs k n t X _ q => XS.iconst X.here B.1.1 rfl (hb B.1.2.1 hd) q) kk
theorem G.bipush {i : Int} {z : Int32} (B : Cx p s m meth c Z own nm bytes maxL rt n0 h0 ws) (hd : decode bytes pc = .ok (.bipush i, 2)) (hz : (Int8.ofInt i).toInt32 = z) (hp : pc + 2 = pc') (kk : G p l e R s m args below meth c n0 h0 ws Q cells slots h (mkF m pc' ls (.int z :: st))) : G p l e R s m args below meth c n0 h0 ws Q cells slots h (mkF m pc ls st) := by
  subst hp hz
  exact G.stepX (fun T locs k n t X _ q => XS.bipush X.here B.1.1 rfl (hb B.1.2.1 hd) q) kk
theorem G.sipush {i : Int} {z : Int32} (B : Cx p s m meth c Z own nm bytes maxL rt n0 h0 ws) (hd : decode bytes pc = .ok (.sipush i, 3)) (hz : (Int16.ofInt i).toInt32 = z) (hp : pc + 3 = pc') (kk : G p l e R s m args below meth c n0 h0 ws Q cells slots h (mkF m pc' ls (.int z :: st))) : G p l e R s m args below meth c n0 h0 ws Q cells slots h (mkF m pc ls st) := by
  subst hp hz
  exact G.stepX (fun T locs k n t X _ q => XS.sipush X.here B.1.1 rfl (hb B.1.2.1 hd) q) kk
theorem G.lconst {i : Fin 2} {z : Int64} (B : Cx p s m meth c Z own nm bytes maxL rt n0 h0 ws) (hd : decode bytes pc = .ok (.lconst i, 1)) (hz : Int64.ofNat i = z) (hp : pc + 1 = pc') (kk : G p l e R s m args below meth c n0 h0 ws Q cells slots h (mkF m pc' ls (.long z :: st))) : G p l e R s m args below meth c n0 h0 ws Q cells slots h (mkF m pc ls st) := by
  subst hp hz
  exact G.stepX (fun T locs k n t X _ q => XS.lconst X.here B.1.1 rfl (hb B.1.2.1 hd) q) kk
theorem G.aconstNull (B : Cx p s m meth c Z own nm bytes maxL rt n0 h0 ws) (hd : decode bytes pc = .ok (.aconst_null, 1)) (hp : pc + 1 = pc') (kk : G p l e R s m args below meth c n0 h0 ws Q cells slots h (mkF m pc' ls (.null :: st))) : G p l e R s m args below meth c n0 h0 ws Q cells slots h (mkF m pc ls st) := by
  subst hp
  exact G.stepX (fun T locs k n t X _ q => XS.aconstNull X.here B.1.1 rfl (hb B.1.2.1 hd) q) kk
theorem G.iadd {x y : Int32} (B : Cx p s m meth c Z own nm bytes maxL rt n0 h0 ws) (hd : decode bytes pc = .ok (.iadd, 1)) (hp : pc + 1 = pc') (kk : G p l e R s m args below meth c n0 h0 ws Q cells slots h (mkF m pc' ls (.int (x + y) :: st))) : G p l e R s m args below meth c n0 h0 ws Q cells slots h (mkF m pc ls (.int y :: .int x :: st)) := by
  subst hp
  exact G.stepX (fun T locs k n t X _ q => XS.iadd X.here B.1.1 rfl (hb B.1.2.1 hd) rfl q) kk
theorem G.ladd {x y : Int64} (B : Cx p s m meth c Z own nm bytes maxL rt n0 h0 ws) (hd : decode bytes pc = .ok (.ladd, 1)) (hp : pc + 1 = pc') (kk : G p l e R s m args below meth c n0 h0 ws Q cells slots h (mkF m pc' ls (.long (x + y) :: st))) : G p l e R s m args below meth c n0 h0 ws Q cells slots h (mkF m pc ls (.long y :: .long x :: st)) := by
  subst hp
  exact G.stepX (fun T locs k n t X _ q => XS.ladd X.here B.1.1 rfl (hb B.1.2.1 hd) rfl q) kk
theorem G.isub {x y : Int32} (B : Cx p s m meth c Z own nm bytes maxL rt n0 h0 ws) (hd : decode bytes pc = .ok (.isub, 1)) (hp : pc + 1 = pc') (kk : G p l e R s m args below meth c n0 h0 ws Q cells slots h (mkF m pc' ls (.int (x - y) :: st))) : G p l e R s m args below meth c n0 h0 ws Q cells slots h (mkF m pc ls (.int y :: .int x :: st)) := by
  subst hp
  exact G.stepX (fun T locs k n t X _ q => XS.isub X.here B.1.1 rfl (hb B.1.2.1 hd) rfl q) kk
theorem G.lsub {x y : Int64} (B : Cx p s m meth c Z own nm bytes maxL rt n0 h0 ws) (hd : decode bytes pc = .ok (.lsub, 1)) (hp : pc + 1 = pc') (kk : G p l e R s m args below meth c n0 h0 ws Q cells slots h (mkF m pc' ls (.long (x - y) :: st))) : G p l e R s m args below meth c n0 h0 ws Q cells slots h (mkF m pc ls (.long y :: .long x :: st)) := by
  subst hp
  exact G.stepX (fun T locs k n t X _ q => XS.lsub X.here B.1.1 rfl (hb B.1.2.1 hd) rfl q) kk
theorem G.imul {x y : Int32} (B : Cx p s m meth c Z own nm bytes maxL rt n0 h0 ws) (hd : decode bytes pc = .ok (.imul, 1)) (hp : pc + 1 = pc') (kk : G p l e R s m args below meth c n0 h0 ws Q cells slots h (mkF m pc' ls (.int (x * y) :: st))) : G p l e R s m args below meth c n0 h0 ws Q cells slots h (mkF m pc ls (.int y :: .int x :: st)) := by
  subst hp
  exact G.stepX (fun T locs k n t X _ q => XS.imul X.here B.1.1 rfl (hb B.1.2.1 hd) rfl q) kk
theorem G.lmul {x y : Int64} (B : Cx p s m meth c Z own nm bytes maxL rt n0 h0 ws) (hd : decode bytes pc = .ok (.lmul, 1)) (hp : pc + 1 = pc') (kk : G p l e R s m args below meth c n0 h0 ws Q cells slots h (mkF m pc' ls (.long (x * y) :: st))) : G p l e R s m args below meth c n0 h0 ws Q cells slots h (mkF m pc ls (.long y :: .long x :: st)) := by
  subst hp
  exact G.stepX (fun T locs k n t X _ q => XS.lmul X.here B.1.1 rfl (hb B.1.2.1 hd) rfl q) kk
theorem G.iand {x y : Int32} (B : Cx p s m meth c Z own nm bytes maxL rt n0 h0 ws) (hd : decode bytes pc = .ok (.iand, 1)) (hp : pc + 1 = pc') (kk : G p l e R s m args below meth c n0 h0 ws Q cells slots h (mkF m pc' ls (.int (x &&& y) :: st))) : G p l e R s m args below meth c n0 h0 ws Q cells slots h (mkF m pc ls (.int y :: .int x :: st)) := by
  subst hp
  exact G.stepX (fun T locs k n t X _ q => XS.iand X.here B.1.1 rfl (hb B.1.2.1 hd) rfl q) kk
theorem G.land {x y : Int64} (B : Cx p s m meth c Z own nm bytes maxL rt n0 h0 ws) (hd : decode bytes pc = .ok (.land, 1)) (hp : pc + 1 = pc') (kk : G p l e R s m args below meth c n0 h0 ws Q cells slots h (mkF m pc' ls (.long (x &&& y) :: st))) : G p l e R s m args below meth c n0 h0 ws Q cells slots h (mkF m pc ls (.long y :: .long x :: st)) := by
  subst hp
  exact G.stepX (fun T locs k n t X _ q => XS.land X.here B.1.1 rfl (hb B.1.2.1 hd) rfl q) kk
theorem G.ior {x y : Int32} (B : Cx p s m meth c Z own nm bytes maxL rt n0 h0 ws) (hd : decode bytes pc = .ok (.ior, 1)) (hp : pc + 1 = pc') (kk : G p l e R s m args below meth c n0 h0 ws Q cells slots h (mkF m pc' ls (.int (x ||| y) :: st))) : G p l e R s m args below meth c n0 h0 ws Q cells slots h (mkF m pc ls (.int y :: .int x :: st)) := by
  subst hp
  exact G.stepX (fun T locs k n t X _ q => XS.ior X.here B.1.1 rfl (hb B.1.2.1 hd) rfl q) kk
theorem G.lor {x y : Int64} (B : Cx p s m meth c Z own nm bytes maxL rt n0 h0 ws) (hd : decode bytes pc = .ok (.lor, 1)) (hp : pc + 1 = pc') (kk : G p l e R s m args below meth c n0 h0 ws Q cells slots h (mkF m pc' ls (.long (x ||| y) :: st))) : G p l e R s m args below meth c n0 h0 ws Q cells slots h (mkF m pc ls (.long y :: .long x :: st)) := by
  subst hp
  exact G.stepX (fun T locs k n t X _ q => XS.lor X.here B.1.1 rfl (hb B.1.2.1 hd) rfl q) kk
theorem G.ixor {x y : Int32} (B : Cx p s m meth c Z own nm bytes maxL rt n0 h0 ws) (hd : decode bytes pc = .ok (.ixor, 1)) (hp : pc + 1 = pc') (kk : G p l e R s m args below meth c n0 h0 ws Q cells slots h (mkF m pc' ls (.int (x ^^^ y) :: st))) : G p l e R s m args below meth c n0 h0 ws Q cells slots h (mkF m pc ls (.int y :: .int x :: st)) := by
  subst hp
  exact G.stepX (fun T locs k n t X _ q => XS.ixor X.here B.1.1 rfl (hb B.1.2.1 hd) rfl q) kk
theorem G.lxor {x y : Int64} (B : Cx p s m meth c Z own nm bytes maxL rt n0 h0 ws) (hd : decode bytes pc = .ok (.lxor, 1)) (hp : pc + 1 = pc') (kk : G p l e R s m args below meth c n0 h0 ws Q cells slots h (mkF m pc' ls (.long (x ^^^ y) :: st))) : G p l e R s m args below meth c n0 h0 ws Q cells slots h (mkF m pc ls (.long y :: .long x :: st)) := by
  subst hp
  exact G.stepX (fun T locs k n t X _ q => XS.lxor X.here B.1.1 rfl (hb B.1.2.1 hd) rfl q) kk
theorem G.idiv {x y : Int32} (B : Cx p s m meth c Z own nm bytes maxL rt n0 h0 ws) (hd : decode bytes pc = .ok (.idiv, 1)) (hy : y ≠ 0) (hp : pc + 1 = pc') (kk : G p l e R s m args below meth c n0 h0 ws Q cells slots h (mkF m pc' ls (.int (x / y) :: st))) : G p l e R s m args below meth c n0 h0 ws Q cells slots h (mkF m pc ls (.int y :: .int x :: st)) := by
  subst hp
  exact G.stepX (fun T locs k n t X _ q => XS.idiv X.here B.1.1 rfl (hb B.1.2.1 hd) rfl hy q) kk
theorem G.irem {x y : Int32} (B : Cx p s m meth c Z own nm bytes maxL rt n0 h0 ws) (hd : decode bytes pc = .ok (.irem, 1)) (hy : y ≠ 0) (hp : pc + 1 = pc') (kk : G p l e R s m args below meth c n0 h0 ws Q cells slots h (mkF m pc' ls (.int (x % y) :: st))) : G p l e R s m args below meth c n0 h0 ws Q cells slots h (mkF m pc ls (.int y :: .int x :: st)) := by
  subst hp
  exact G.stepX (fun T locs k n t X _ q => Jvm.RoadKit.iremM X B.1.1 rfl (hb B.1.2.1 hd) rfl hy q) kk
theorem G.ldiv {x y : Int64} (B : Cx p s m meth c Z own nm bytes maxL rt n0 h0 ws) (hd : decode bytes pc = .ok (.ldiv, 1)) (hy : y ≠ 0) (hp : pc + 1 = pc') (kk : G p l e R s m args below meth c n0 h0 ws Q cells slots h (mkF m pc' ls (.long (x / y) :: st))) : G p l e R s m args below meth c n0 h0 ws Q cells slots h (mkF m pc ls (.long y :: .long x :: st)) := by
  subst hp
  exact G.stepX (fun T locs k n t X _ q => XS.ldiv X.here B.1.1 rfl (hb B.1.2.1 hd) rfl hy q) kk
theorem G.lrem {x y : Int64} (B : Cx p s m meth c Z own nm bytes maxL rt n0 h0 ws) (hd : decode bytes pc = .ok (.lrem, 1)) (hy : y ≠ 0) (hp : pc + 1 = pc') (kk : G p l e R s m args below meth c n0 h0 ws Q cells slots h (mkF m pc' ls (.long (x % y) :: st))) : G p l e R s m args below meth c n0 h0 ws Q cells slots h (mkF m pc ls (.long y :: .long x :: st)) := by
  subst hp
  rw [← lrem_mod] at kk
  exact G.stepX (fun T locs k n t X _ q => XS.lrem X.here B.1.1 rfl (hb B.1.2.1 hd) rfl hy q) kk
theorem G.ishl {x y : Int32} (B : Cx p s m meth c Z own nm bytes maxL rt n0 h0 ws) (hd : decode bytes pc = .ok (.ishl, 1)) (hp : pc + 1 = pc') (kk : G p l e R s m args below meth c n0 h0 ws Q cells slots h (mkF m pc' ls (.int (x <<< (y &&& 31)) :: st))) : G p l e R s m args below meth c n0 h0 ws Q cells slots h (mkF m pc ls (.int y :: .int x :: st)) := by
  subst hp
  exact G.stepX (fun T locs k n t X _ q => XS.ishl X.here B.1.1 rfl (hb B.1.2.1 hd) rfl q) kk
theorem G.ishr {x y : Int32} (B : Cx p s m meth c Z own nm bytes maxL rt n0 h0 ws) (hd : decode bytes pc = .ok (.ishr, 1)) (hp : pc + 1 = pc') (kk : G p l e R s m args below meth c n0 h0 ws Q cells slots h (mkF m pc' ls (.int (x >>> (y &&& 31)) :: st))) : G p l e R s m args below meth c n0 h0 ws Q cells slots h (mkF m pc ls (.int y :: .int x :: st)) := by
  subst hp
  exact G.stepX (fun T locs k n t X _ q => XS.ishr X.here B.1.1 rfl (hb B.1.2.1 hd) rfl q) kk
theorem G.iushr {x y : Int32} (B : Cx p s m meth c Z own nm bytes maxL rt n0 h0 ws) (hd : decode bytes pc = .ok (.iushr, 1)) (hp : pc + 1 = pc') (kk : G p l e R s m args below meth c n0 h0 ws Q cells slots h (mkF m pc' ls (.int ((x.toUInt32 >>> (y &&& 31).toUInt32).toInt32) :: st))) : G p l e R s m args below meth c n0 h0 ws Q cells slots h (mkF m pc ls (.int y :: .int x :: st)) := by
  subst hp
  exact G.stepX (fun T locs k n t X _ q => XS.iushr X.here B.1.1 rfl (hb B.1.2.1 hd) rfl q) kk
theorem G.lshl {x : Int64} {y : Int32} (B : Cx p s m meth c Z own nm bytes maxL rt n0 h0 ws) (hd : decode bytes pc = .ok (.lshl, 1)) (hp : pc + 1 = pc') (kk : G p l e R s m args below meth c n0 h0 ws Q cells slots h (mkF m pc' ls (.long (x <<< (y &&& 0x3f).toInt64) :: st))) : G p l e R s m args below meth c n0 h0 ws Q cells slots h (mkF m pc ls (.int y :: .long x :: st)) := by
  subst hp
  exact G.stepX (fun T locs k n t X _ q => XS.lshl X.here B.1.1 rfl (hb B.1.2.1 hd) rfl q) kk
theorem G.lshr {x : Int64} {y : Int32} (B : Cx p s m meth c Z own nm bytes maxL rt n0 h0 ws) (hd : decode bytes pc = .ok (.lshr, 1)) (hp : pc + 1 = pc') (kk : G p l e R s m args below meth c n0 h0 ws Q cells slots h (mkF m pc' ls (.long (x >>> (y &&& 0x3f).toInt64) :: st))) : G p l e R s m args below meth c n0 h0 ws Q cells slots h (mkF m pc ls (.int y :: .long x :: st)) := by
  subst hp
  exact G.stepX (fun T locs k n t X _ q => XS.lshr X.here B.1.1 rfl (hb B.1.2.1 hd) rfl q) kk
theorem G.lushr {x : Int64} {y : Int32} (B : Cx p s m meth c Z own nm bytes maxL rt n0 h0 ws) (hd : decode bytes pc = .ok (.lushr, 1)) (hp : pc + 1 = pc') (kk : G p l e R s m args below meth c n0 h0 ws Q cells slots h (mkF m pc' ls (.long ((x.toUInt64 >>> (y &&& 0x3f).toInt64.toUInt64).toInt64) :: st))) : G p l e R s m args below meth c n0 h0 ws Q cells slots h (mkF m pc ls (.int y :: .long x :: st)) := by
  subst hp
  exact G.stepX (fun T locs k n t X _ q => XS.lushr X.here B.1.1 rfl (hb B.1.2.1 hd) rfl q) kk
theorem G.ineg {x : Int32} (B : Cx p s m meth c Z own nm bytes maxL rt n0 h0 ws) (hd : decode bytes pc = .ok (.ineg, 1)) (hp : pc + 1 = pc') (kk : G p l e R s m args below meth c n0 h0 ws Q cells slots h (mkF m pc' ls (.int (-x) :: st))) : G p l e R s m args below meth c n0 h0 ws Q cells slots h (mkF m pc ls (.int x :: st)) := by
  subst hp
  exact G.stepX (fun T locs k n t X _ q => XS.ineg X.here B.1.1 rfl (hb B.1.2.1 hd) rfl q) kk
theorem G.lneg {x : Int64} (B : Cx p s m meth c Z own nm bytes maxL rt n0 h0 ws) (hd : decode bytes pc = .ok (.lneg, 1)) (hp : pc + 1 = pc') (kk : G p l e R s m args below meth c n0 h0 ws Q cells slots h (mkF m pc' ls (.long (-x) :: st))) : G p l e R s m args below meth c n0 h0 ws Q cells slots h (mkF m pc ls (.long x :: st)) := by
  subst hp
  exact G.stepX (fun T locs k n t X _ q => XS.lneg X.here B.1.1 rfl (hb B.1.2.1 hd) rfl q) kk
theorem G.i2l {x : Int32} (B : Cx p s m meth c Z own nm bytes maxL rt n0 h0 ws) (hd : decode bytes pc = .ok (.i2l, 1)) (hp : pc + 1 = pc') (kk : G p l e R s m args below meth c n0 h0 ws Q cells slots h (mkF m pc' ls (.long x.toInt64 :: st))) : G p l e R s m args below meth c n0 h0 ws Q cells slots h (mkF m pc ls (.int x :: st)) := by
  subst hp
  exact G.stepX (fun T locs k n t X _ q => XS.i2l X.here B.1.1 rfl (hb B.1.2.1 hd) rfl q) kk
theorem G.l2i {x : Int64} (B : Cx p s m meth c Z own nm bytes maxL rt n0 h0 ws) (hd : decode bytes pc = .ok (.l2i, 1)) (hp : pc + 1 = pc') (kk : G p l e R s m args below meth c n0 h0 ws Q cells slots h (mkF m pc' ls (.int x.toInt32 :: st))) : G p l e R s m args below meth c n0 h0 ws Q cells slots h (mkF m pc ls (.long x :: st)) := by
  subst hp
  exact G.stepX (fun T locs k n t X _ q => XS.l2i X.here B.1.1 rfl (hb B.1.2.1 hd) rfl q) kk
theorem G.i2b {x : Int32} (B : Cx p s m meth c Z own nm bytes maxL rt n0 h0 ws) (hd : decode bytes pc = .ok (.i2b, 1)) (hp : pc + 1 = pc') (kk : G p l e R s m args below meth c n0 h0 ws Q cells slots h (mkF m pc' ls (.int x.toInt8.toInt32 :: st))) : G p l e R s m args below meth c n0 h0 ws Q cells slots h (mkF m pc ls (.int x :: st)) := by
  subst hp
  exact G.stepX (fun T locs k n t X _ q => XS.i2b X.here B.1.1 rfl (hb B.1.2.1 hd) rfl q) kk
theorem G.i2s {x : Int32} (B : Cx p s m meth c Z own nm bytes maxL rt n0 h0 ws) (hd : decode bytes pc = .ok (.i2s, 1)) (hp : pc + 1 = pc') (kk : G p l e R s m args below meth c n0 h0 ws Q cells slots h (mkF m pc' ls (.int x.toInt16.toInt32 :: st))) : G p l e R s m args below meth c n0 h0 ws Q cells slots h (mkF m pc ls (.int x :: st)) := by
  subst hp
  exact G.stepX (fun T locs k n t X _ q => XS.i2s X.here B.1.1 rfl (hb B.1.2.1 hd) rfl q) kk
theorem G.i2c {x : Int32} (B : Cx p s m meth c Z own nm bytes maxL rt n0 h0 ws) (hd : decode bytes pc = .ok (.i2c, 1)) (hp : pc + 1 = pc') (kk : G p l e R s m args below meth c n0 h0 ws Q cells slots h (mkF m pc' ls (.int x.toUInt32.toUInt16.toUInt32.toInt32 :: st))) : G p l e R s m args below meth c n0 h0 ws Q cells slots h (mkF m pc ls (.int x :: st)) := by
  subst hp
  exact G.stepX (fun T locs k n t X _ q => XS.i2c X.here B.1.1 rfl (hb B.1.2.1 hd) rfl q) kk
theorem G.lcmp {x y : Int64} (B : Cx p s m meth c Z own nm bytes maxL rt n0 h0 ws) (hd : decode bytes pc = .ok (.lcmp, 1)) (hp : pc + 1 = pc') (kk : G p l e R s m args below meth c n0 h0 ws Q cells slots h (mkF m pc' ls (.int (lcmpW x y) :: st))) : G p l e R s m args below meth c n0 h0 ws Q cells slots h (mkF m pc ls (.long y :: .long x :: st)) := by
  subst hp
  exact G.stepX (fun T locs k n t X _ q => XS.lcmp X.here B.1.1 rfl (hb B.1.2.1 hd) rfl q) kk
theorem G.iinc {k : Nat} {cst : Int} {x z : Int32} (B : Cx p s m meth c Z own nm bytes maxL rt n0 h0 ws) (hd : decode bytes pc = .ok (.iinc k cst, 3)) (hl : ls[k]? = some (.val (.int x))) (hz : x + Int32.ofInt cst = z) (hl' : storeLocals ls k (.int z) = some ls') (hp : pc + 3 = pc') (kk : G p l e R s m args below meth c n0 h0 ws Q cells slots h (mkF m pc' ls' st)) : G p l e R s m args below meth c n0 h0 ws Q cells slots h (mkF m pc ls st) := by
  subst hp
  exact G.stepX (fun T locs k n t X _ q => XS.iinc X.here B.1.1 rfl (hb B.1.2.1 hd) hl (by rw [hz]; exact hl') q) kk
theorem G.dup {v : Value} (B : Cx p s m meth c Z own nm bytes maxL rt n0 h0 ws) (hd : decode bytes pc = .ok (.dup, 1)) (hc : v.category = 1) (hp : pc + 1 = pc') (kk : G p l e R s m args below meth c n0 h0 ws Q cells slots h (mkF m pc' ls (v :: v :: st))) : G p l e R s m args below meth c n0 h0 ws Q cells slots h (mkF m pc ls (v :: st)) := by
  subst hp
  exact G.stepX (fun T locs k n t X _ q => XS.dup X.here B.1.1 rfl (hb B.1.2.1 hd) rfl hc q) kk
theorem G.pop {v : Value} (B : Cx p s m meth c Z own nm bytes maxL rt n0 h0 ws) (hd : decode bytes pc = .ok (.pop, 1)) (hc : v.category = 1) (hp : pc + 1 = pc') (kk : G p l e R s m args below meth c n0 h0 ws Q cells slots h (mkF m pc' ls st)) : G p l e R s m args below meth c n0 h0 ws Q cells slots h (mkF m pc ls (v :: st)) := by
  subst hp
  exact G.stepX (fun T locs k n t X _ q => XS.pop X.here B.1.1 rfl (hb B.1.2.1 hd) rfl hc q) kk
theorem G.dupX1 {v w : Value} (B : Cx p s m meth c Z own nm bytes maxL rt n0 h0 ws) (hd : decode bytes pc = .ok (.dup_x1, 1)) (hc : v.category = 1) (hc' : w.category = 1) (hp : pc + 1 = pc') (kk : G p l e R s m args below meth c n0 h0 ws Q cells slots h (mkF m pc' ls (v :: w :: v :: st))) : G p l e R s m args below meth c n0 h0 ws Q cells slots h (mkF m pc ls (v :: w :: st)) := by
  subst hp
  exact G.stepX (fun T locs k n t X _ q => XS.dupX1 X.here B.1.1 rfl (hb B.1.2.1 hd) rfl hc hc' q) kk
theorem G.dup2 {v w : Value} (B : Cx p s m meth c Z own nm bytes maxL rt n0 h0 ws) (hd : decode bytes pc = .ok (.dup2, 1)) (hc : v.category = 1) (hc' : w.category = 1) (hp : pc + 1 = pc') (kk : G p l e R s m args below meth c n0 h0 ws Q cells slots h (mkF m pc' ls (v :: w :: v :: w :: st))) : G p l e R s m args below meth c n0 h0 ws Q cells slots h (mkF m pc ls (v :: w :: st)) := by
  subst hp
  exact G.stepX (fun T locs k n t X _ q => XT.dup2 X.here B.1.1 rfl (hb B.1.2.1 hd) rfl hc hc' q) kk
theorem G.goto {o : Int} (B : Cx p s m meth c Z own nm bytes maxL rt n0 h0 ws) (hd : decode bytes pc = .ok (.goto o, 3)) (ho : 0 ≤ (pc : Int) + o) (hp : ((pc : Int) + o).toNat = pc') (kk : G p l e R s m args below meth c n0 h0 ws Q cells slots h (mkF m pc' ls st)) : G p l e R s m args below meth c n0 h0 ws Q cells slots h (mkF m pc ls st) := by
  exact G.stepX (fun T locs k n t X _ q => XS.goto X.here B.1.1 rfl (pc0 := pc) (pc' := pc') rfl (hb B.1.2.1 hd) ho hp q) kk
theorem own_nlt {x y : Int32} (h : y.toInt ≤ x.toInt) : ¬ x < y := fun q => by rw [Int32.lt_iff_toInt_lt] at q; omega
theorem own_ylt {x y : Int32} (h : x.toInt < y.toInt) : x < y := Int32.lt_iff_toInt_lt.mpr h
theorem G.icmp_eq {x y : Int32} {o : Int} {pcT : Nat} (B : Cx p s m meth c Z own nm bytes maxL rt n0 h0 ws) (hd : decode bytes pc = .ok (.if_icmp .eq o, 3)) (ho : 0 ≤ (pc : Int) + o) (hT : ((pc : Int) + o).toNat = pcT) (hp : pc + 3 = pc') (k1 : x = y → G p l e R s m args below meth c n0 h0 ws Q cells slots h (mkF m pcT ls st)) (k2 : x ≠ y → G p l e R s m args below meth c n0 h0 ws Q cells slots h (mkF m pc' ls st)) : G p l e R s m args below meth c n0 h0 ws Q cells slots h (mkF m pc ls (.int y :: .int x :: st)) := by
  subst hp
  by_cases h : x = y
  · exact G.stepX (fun T locs k n t X _ q => XS.icmpYes X.here B.1.1 rfl (pc0 := pc) (pc' := pcT) rfl (hb B.1.2.1 hd) rfl (teq h).1 ho hT q) (k1 h)
  · exact G.stepX (fun T locs k n t X _ q => XS.icmpNo X.here B.1.1 rfl (hb B.1.2.1 hd) rfl (feq h).1 q) (k2 h)
theorem G.if_eq {x : Int32} {o : Int} {pcT : Nat} (B : Cx p s m meth c Z own nm bytes maxL rt n0 h0 ws) (hd : decode bytes pc = .ok (.ifCond .eq o, 3)) (ho : 0 ≤ (pc : Int) + o) (hT : ((pc : Int) + o).toNat = pcT) (hp : pc + 3 = pc') (k1 : x = 0 → G p l e R s m args below meth c n0 h0 ws Q cells slots h (mkF m pcT ls st)) (k2 : x ≠ 0 → G p l e R s m args below meth c n0 h0 ws Q cells slots h (mkF m pc' ls st)) : G p l e R s m args below meth c n0 h0 ws Q cells slots h (mkF m pc ls (.int x :: st)) := by
  subst hp
  by_cases h : x = 0
  · exact G.stepX (fun T locs k n t X _ q => XS.ifYes X.here B.1.1 rfl (pc0 := pc) (pc' := pcT) rfl (hb B.1.2.1 hd) rfl ((if0 _ _).trans (teq h).1) ho hT q) (k1 h)
  · exact G.stepX (fun T locs k n t X _ q => XS.ifNo X.here B.1.1 rfl (hb B.1.2.1 hd) rfl ((if0 _ _).trans (feq h).1) q) (k2 h)
theorem G.lcmp_eq {x y : Int64} {o : Int} {pc1 pcT : Nat} (B : Cx p s m meth c Z own nm bytes maxL rt n0 h0 ws) (hd0 : decode bytes pc = .ok (.lcmp, 1)) (hp0 : pc + 1 = pc1) (hd : decode bytes pc1 = .ok (.ifCond .eq o, 3)) (ho : 0 ≤ (pc1 : Int) + o) (hT : ((pc1 : Int) + o).toNat = pcT) (hp : pc1 + 3 = pc') (k1 : x = y → G p l e R s m args below meth c n0 h0 ws Q cells slots h (mkF m pcT ls st)) (k2 : x ≠ y → G p l e R s m args below meth c n0 h0 ws Q cells slots h (mkF m pc' ls st)) : G p l e R s m args below meth c n0 h0 ws Q cells slots h (mkF m pc ls (.long y :: .long x :: st)) :=
  G.lcmp B hd0 hp0 (G.if_eq B hd ho hT hp (fun q => k1 ((lw_eq x y).mp q)) (fun q => k2 (fun r => q ((lw_eq x y).mpr r))))
theorem G.icmp_ne {x y : Int32} {o : Int} {pcT : Nat} (B : Cx p s m meth c Z own nm bytes maxL rt n0 h0 ws) (hd : decode bytes pc = .ok (.if_icmp .ne o, 3)) (ho : 0 ≤ (pc : Int) + o) (hT : ((pc : Int) + o).toNat = pcT) (hp : pc + 3 = pc') (k1 : x ≠ y → G p l e R s m args below meth c n0 h0 ws Q cells slots h (mkF m pcT ls st)) (k2 : x = y → G p l e R s m args below meth c n0 h0 ws Q cells slots h (mkF m pc' ls st)) : G p l e R s m args below meth c n0 h0 ws Q cells slots h (mkF m pc ls (.int y :: .int x :: st)) := by
  subst hp
  by_cases h : x ≠ y
  · exact G.stepX (fun T locs k n t X _ q => XS.icmpYes X.here B.1.1 rfl (pc0 := pc) (pc' := pcT) rfl (hb B.1.2.1 hd) rfl (feq h).2 ho hT q) (k1 h)
  · replace h : x = y := Decidable.of_not_not h
    exact G.stepX (fun T locs k n t X _ q => XS.icmpNo X.here B.1.1 rfl (hb B.1.2.1 hd) rfl (teq h).2 q) (k2 h)
theorem G.if_ne {x : Int32} {o : Int} {pcT : Nat} (B : Cx p s m meth c Z own nm bytes maxL rt n0 h0 ws) (hd : decode bytes pc = .ok (.ifCond .ne o, 3)) (ho : 0 ≤ (pc : Int) + o) (hT : ((pc : Int) + o).toNat = pcT) (hp : pc + 3 = pc') (k1 : x ≠ 0 → G p l e R s m args below meth c n0 h0 ws Q cells slots h (mkF m pcT ls st)) (k2 : x = 0 → G p l e R s m args below meth c n0 h0 ws Q cells slots h (mkF m pc' ls st)) : G p l e R s m args below meth c n0 h0 ws Q cells slots h (mkF m pc ls (.int x :: st)) := by
  subst hp
  by_cases h : x ≠ 0
  · exact G.stepX (fun T locs k n t X _ q => XS.ifYes X.here B.1.1 rfl (pc0 := pc) (pc' := pcT) rfl (hb B.1.2.1 hd) rfl ((if0 _ _).trans (feq h).2) ho hT q) (k1 h)
  · replace h : x = 0 := Decidable.of_not_not h
    exact G.stepX (fun T locs k n t X _ q => XS.ifNo X.here B.1.1 rfl (hb B.1.2.1 hd) rfl ((if0 _ _).trans (teq h).2) q) (k2 h)
theorem G.lcmp_ne {x y : Int64} {o : Int} {pc1 pcT : Nat} (B : Cx p s m meth c Z own nm bytes maxL rt n0 h0 ws) (hd0 : decode bytes pc = .ok (.lcmp, 1)) (hp0 : pc + 1 = pc1) (hd : decode bytes pc1 = .ok (.ifCond .ne o, 3)) (ho : 0 ≤ (pc1 : Int) + o) (hT : ((pc1 : Int) + o).toNat = pcT) (hp : pc1 + 3 = pc') (k1 : x ≠ y → G p l e R s m args below meth c n0 h0 ws Q cells slots h (mkF m pcT ls st)) (k2 : x = y → G p l e R s m args below meth c n0 h0 ws Q cells slots h (mkF m pc' ls st)) : G p l e R s m args below meth c n0 h0 ws Q cells slots h (mkF m pc ls (.long y :: .long x :: st)) :=
  G.lcmp B hd0 hp0 (G.if_ne B hd ho hT hp (fun q => k1 (fun r => q ((lw_eq x y).mpr r))) (fun q => k2 ((lw_eq x y).mp q)))
theorem G.icmp_lt {x y : Int32} {o : Int} {pcT : Nat} (B : Cx p s m meth c Z own nm bytes maxL rt n0 h0 ws) (hd : decode bytes pc = .ok (.if_icmp .lt o, 3)) (ho : 0 ≤ (pc : Int) + o) (hT : ((pc : Int) + o).toNat = pcT) (hp : pc + 3 = pc') (k1 : x.toInt < y.toInt → G p l e R s m args below meth c n0 h0 ws Q cells slots h (mkF m pcT ls st)) (k2 : y.toInt ≤ x.toInt → G p l e R s m args below meth c n0 h0 ws Q cells slots h (mkF m pc' ls st)) : G p l e R s m args below meth c n0 h0 ws Q cells slots h (mkF m pc ls (.int y :: .int x :: st)) := by
  subst hp
  by_cases h : x.toInt < y.toInt
  · exact G.stepX (fun T locs k n t X _ q => XS.icmpYes X.here B.1.1 rfl (pc0 := pc) (pc' := pcT) rfl (hb B.1.2.1 hd) rfl (tlt (own_ylt h)).1 ho hT q) (k1 h)
  · replace h := Int.not_lt.mp h
    exact G.stepX (fun T locs k n t X _ q => XS.icmpNo X.here B.1.1 rfl (hb B.1.2.1 hd) rfl (flt (own_nlt h)).1 q) (k2 h)
theorem G.if_lt {x : Int32} {o : Int} {pcT : Nat} (B : Cx p s m meth c Z own nm bytes maxL rt n0 h0 ws) (hd : decode bytes pc = .ok (.ifCond .lt o, 3)) (ho : 0 ≤ (pc : Int) + o) (hT : ((pc : Int) + o).toNat = pcT) (hp : pc + 3 = pc') (k1 : x.toInt < 0 → G p l e R s m args below meth c n0 h0 ws Q cells slots h (mkF m pcT ls st)) (k2 : 0 ≤ x.toInt → G p l e R s m args below meth c n0 h0 ws Q cells slots h (mkF m pc' ls st)) : G p l e R s m args below meth c n0 h0 ws Q cells slots h (mkF m pc ls (.int x :: st)) := by
  subst hp
  by_cases h : x.toInt < 0
  · exact G.stepX (fun T locs k n t X _ q => XS.ifYes X.here B.1.1 rfl (pc0 := pc) (pc' := pcT) rfl (hb B.1.2.1 hd) rfl ((if0 _ _).trans (tlt (own_ylt (y := 0) h)).1) ho hT q) (k1 h)
  · replace h := Int.not_lt.mp h
    exact G.stepX (fun T locs k n t X _ q => XS.ifNo X.here B.1.1 rfl (hb B.1.2.1 hd) rfl ((if0 _ _).trans (flt (own_nlt (y := 0) h)).1) q) (k2 h)
theorem G.lcmp_lt {x y : Int64} {o : Int} {pc1 pcT : Nat} (B : Cx p s m meth c Z own nm bytes maxL rt n0 h0 ws) (hd0 : decode bytes pc = .ok (.lcmp, 1)) (hp0 : pc + 1 = pc1) (hd : decode bytes pc1 = .ok (.ifCond .lt o, 3)) (ho : 0 ≤ (pc1 : Int) + o) (hT : ((pc1 : Int) + o).toNat = pcT) (hp : pc1 + 3 = pc') (k1 : x.toInt < y.toInt → G p l e R s m args below meth c n0 h0 ws Q cells slots h (mkF m pcT ls st)) (k2 : y.toInt ≤ x.toInt → G p l e R s m args below meth c n0 h0 ws Q cells slots h (mkF m pc' ls st)) : G p l e R s m args below meth c n0 h0 ws Q cells slots h (mkF m pc ls (.long y :: .long x :: st)) :=
  G.lcmp B hd0 hp0 (G.if_lt B hd ho hT hp (fun q => k1 (by have := c_lcmp x y; omega)) (fun q => k2 (by have := c_lcmp x y; omega)))
theorem G.icmp_ge {x y : Int32} {o : Int} {pcT : Nat} (B : Cx p s m meth c Z own nm bytes maxL rt n0 h0 ws) (hd : decode bytes pc = .ok (.if_icmp .ge o, 3)) (ho : 0 ≤ (pc : Int) + o) (hT : ((pc : Int) + o).toNat = pcT) (hp : pc + 3 = pc') (k1 : y.toInt ≤ x.toInt → G p l e R s m args below meth c n0 h0 ws Q cells slots h (mkF m pcT ls st)) (k2 : x.toInt < y.toInt → G p l e R s m args below meth c n0 h0 ws Q cells slots h (mkF m pc' ls st)) : G p l e R s m args below meth c n0 h0 ws Q cells slots h (mkF m pc ls (.int y :: .int x :: st)) := by
  subst hp
  by_cases h : y.toInt ≤ x.toInt
  · exact G.stepX (fun T locs k n t X _ q => XS.icmpYes X.here B.1.1 rfl (pc0 := pc) (pc' := pcT) rfl (hb B.1.2.1 hd) rfl (flt (own_nlt h)).2.1 ho hT q) (k1 h)
  · replace h := Int.not_le.mp h
    exact G.stepX (fun T locs k n t X _ q => XS.icmpNo X.here B.1.1 rfl (hb B.1.2.1 hd) rfl (tlt (own_ylt h)).2.1 q) (k2 h)
theorem G.if_ge {x : Int32} {o : Int} {pcT : Nat} (B : Cx p s m meth c Z own nm bytes maxL rt n0 h0 ws) (hd : decode bytes pc = .ok (.ifCond .ge o, 3)) (ho : 0 ≤ (pc : Int) + o) (hT : ((pc : Int) + o).toNat = pcT) (hp : pc + 3 = pc') (k1 : 0 ≤ x.toInt → G p l e R s m args below meth c n0 h0 ws Q cells slots h (mkF m pcT ls st)) (k2 : x.toInt < 0 → G p l e R s m args below meth c n0 h0 ws Q cells slots h (mkF m pc' ls st)) : G p l e R s m args below meth c n0 h0 ws Q cells slots h (mkF m pc ls (.int x :: st)) := by
  subst hp
  by_cases h : 0 ≤ x.toInt
  · exact G.stepX (fun T locs k n t X _ q => XS.ifYes X.here B.1.1 rfl (pc0 := pc) (pc' := pcT) rfl (hb B.1.2.1 hd) rfl ((if0 _ _).trans (flt (own_nlt (y := 0) h)).2.1) ho hT q) (k1 h)
  · replace h := Int.not_le.mp h
    exact G.stepX (fun T locs k n t X _ q => XS.ifNo X.here B.1.1 rfl (hb B.1.2.1 hd) rfl ((if0 _ _).trans (tlt (own_ylt (y := 0) h)).2.1) q) (k2 h)
theorem G.lcmp_ge {x y : Int64} {o : Int} {pc1 pcT : Nat} (B : Cx p s m meth c Z own nm bytes maxL rt n0 h0 ws) (hd0 : decode bytes pc = .ok (.lcmp, 1)) (hp0 : pc + 1 = pc1) (hd : decode bytes pc1 = .ok (.ifCond .ge o, 3)) (ho : 0 ≤ (pc1 : Int) + o) (hT : ((pc1 : Int) + o).toNat = pcT) (hp : pc1 + 3 = pc') (k1 : y.toInt ≤ x.toInt → G p l e R s m args below meth c n0 h0 ws Q cells slots h (mkF m pcT ls st)) (k2 : x.toInt < y.toInt → G p l e R s m args below meth c n0 h0 ws Q cells slots h (mkF m pc' ls st)) : G p l e R s m args below meth c n0 h0 ws Q cells slots h (mkF m pc ls (.long y :: .long x :: st)) :=
  G.lcmp B hd0 hp0 (G.if_ge B hd ho hT hp (fun q => k1 (by have := c_lcmp x y; omega)) (fun q => k2 (by have := c_lcmp x y; omega)))
theorem G.icmp_gt {x y : Int32} {o : Int} {pcT : Nat} (B : Cx p s m meth c Z own nm bytes maxL rt n0 h0 ws) (hd : decode bytes pc = .ok (.if_icmp .gt o, 3)) (ho : 0 ≤ (pc : Int) + o) (hT : ((pc : Int) + o).toNat = pcT) (hp : pc + 3 = pc') (k1 : y.toInt < x.toInt → G p l e R s m args below meth c n0 h0 ws Q cells slots h (mkF m pcT ls st)) (k2 : x.toInt ≤ y.toInt → G p l e R s m args below meth c n0 h0 ws Q cells slots h (mkF m pc' ls st)) : G p l e R s m args below meth c n0 h0 ws Q cells slots h (mkF m pc ls (.int y :: .int x :: st)) := by
  subst hp
  by_cases h : y.toInt < x.toInt
  · exact G.stepX (fun T locs k n t X _ q => XS.icmpYes X.here B.1.1 rfl (pc0 := pc) (pc' := pcT) rfl (hb B.1.2.1 hd) rfl (tlt (own_ylt h)).2.2.1 ho hT q) (k1 h)
  · replace h := Int.not_lt.mp h
    exact G.stepX (fun T locs k n t X _ q => XS.icmpNo X.here B.1.1 rfl (hb B.1.2.1 hd) rfl (flt (own_nlt h)).2.2.1 q) (k2 h)
theorem G.if_gt {x : Int32} {o : Int} {pcT : Nat} (B : Cx p s m meth c Z own nm bytes maxL rt n0 h0 ws) (hd : decode bytes pc = .ok (.ifCond .gt o, 3)) (ho : 0 ≤ (pc : Int) + o) (hT : ((pc : Int) + o).toNat = pcT) (hp : pc + 3 = pc') (k1 : 0 < x.toInt → G p l e R s m args below meth c n0 h0 ws Q cells slots h (mkF m pcT ls st)) (k2 : x.toInt ≤ 0 → G p l e R s m args below meth c n0 h0 ws Q cells slots h (mkF m pc' ls st)) : G p l e R s m args below meth c n0 h0 ws Q cells slots h (mkF m pc ls (.int x :: st)) := by
  subst hp
  by_cases h : 0 < x.toInt
  · exact G.stepX (fun T locs k n t X _ q => XS.ifYes X.here B.1.1 rfl (pc0 := pc) (pc' := pcT) rfl (hb B.1.2.1 hd) rfl ((if0 _ _).trans (tlt (own_ylt (x := 0) h)).2.2.1) ho hT q) (k1 h)
  · replace h := Int.not_lt.mp h
    exact G.stepX (fun T locs k n t X _ q => XS.ifNo X.here B.1.1 rfl (hb B.1.2.1 hd) rfl ((if0 _ _).trans (flt (own_nlt (x := 0) h)).2.2.1) q) (k2 h)
theorem G.lcmp_gt {x y : Int64} {o : Int} {pc1 pcT : Nat} (B : Cx p s m meth c Z own nm bytes maxL rt n0 h0 ws) (hd0 : decode bytes pc = .ok (.lcmp, 1)) (hp0 : pc + 1 = pc1) (hd : decode bytes pc1 = .ok (.ifCond .gt o, 3)) (ho : 0 ≤ (pc1 : Int) + o) (hT : ((pc1 : Int) + o).toNat = pcT) (hp : pc1 + 3 = pc') (k1 : y.toInt < x.toInt → G p l e R s m args below meth c n0 h0 ws Q cells slots h (mkF m pcT ls st)) (k2 : x.toInt ≤ y.toInt → G p l e R s m args below meth c n0 h0 ws Q cells slots h (mkF m pc' ls st)) : G p l e R s m args below meth c n0 h0 ws Q cells slots h (mkF m pc ls (.long y :: .long x :: st)) :=
  G.lcmp B hd0 hp0 (G.if_gt B hd ho hT hp (fun q => k1 (by have := c_lcmp x y; omega)) (fun q => k2 (by have := c_lcmp x y; omega)))
theorem G.icmp_le {x y : Int32} {o : Int} {pcT : Nat} (B : Cx p s m meth c Z own nm bytes maxL rt n0 h0 ws) (hd : decode bytes pc = .ok (.if_icmp .le o, 3)) (ho : 0 ≤ (pc : Int) + o) (hT : ((pc : Int) + o).toNat = pcT) (hp : pc + 3 = pc') (k1 : x.toInt ≤ y.toInt → G p l e R s m args below meth c n0 h0 ws Q cells slots h (mkF m pcT ls st)) (k2 : y.toInt < x.toInt → G p l e R s m args below meth c n0 h0 ws Q cells slots h (mkF m pc' ls st)) : G p l e R s m args below meth c n0 h0 ws Q cells slots h (mkF m pc ls (.int y :: .int x :: st)) := by
  subst hp
  by_cases h : x.toInt ≤ y.toInt
  · exact G.stepX (fun T locs k n t X _ q => XS.icmpYes X.here B.1.1 rfl (pc0 := pc) (pc' := pcT) rfl (hb B.1.2.1 hd) rfl (flt (own_nlt h)).2.2.2 ho hT q) (k1 h)
  · replace h := Int.not_le.mp h
    exact G.stepX (fun T locs k n t X _ q => XS.icmpNo X.here B.1.1 rfl (hb B.1.2.1 hd) rfl (tlt (own_ylt h)).2.2.2 q) (k2 h)
theorem G.if_le {x : Int32} {o : Int} {pcT : Nat} (B : Cx p s m meth c Z own nm bytes maxL rt n0 h0 ws) (hd : decode bytes pc = .ok (.ifCond .le o, 3)) (ho : 0 ≤ (pc : Int) + o) (hT : ((pc : Int) + o).toNat = pcT) (hp : pc + 3 = pc') (k1 : x.toInt ≤ 0 → G p l e R s m args below meth c n0 h0 ws Q cells slots h (mkF m pcT ls st)) (k2 : 0 < x.toInt → G p l e R s m args below meth c n0 h0 ws Q cells slots h (mkF m pc' ls st)) : G p l e R s m args below meth c n0 h0 ws Q cells slots h (mkF m pc ls (.int x :: st)) := by
  subst hp
  by_cases h : x.toInt ≤ 0
  · exact G.stepX (fun T locs k n t X _ q => XS.ifYes X.here B.1.1 rfl (pc0 := pc) (pc' := pcT) rfl (hb B.1.2.1 hd) rfl ((if0 _ _).trans (flt (own_nlt (x := 0) h)).2.2.2) ho hT q) (k1 h)
  · replace h := Int.not_le.mp h
    exact G.stepX (fun T locs k n t X _ q => XS.ifNo X.here B.1.1 rfl (hb B.1.2.1 hd) rfl ((if0 _ _).trans (tlt (own_ylt (x := 0) h)).2.2.2) q) (k2 h)
theorem G.lcmp_le {x y : Int64} {o : Int} {pc1 pcT : Nat} (B : Cx p s m meth c Z own nm bytes maxL rt n0 h0 ws) (hd0 : decode bytes pc = .ok (.lcmp, 1)) (hp0 : pc + 1 = pc1) (hd : decode bytes pc1 = .ok (.ifCond .le o, 3)) (ho : 0 ≤ (pc1 : Int) + o) (hT : ((pc1 : Int) + o).toNat = pcT) (hp : pc1 + 3 = pc') (k1 : x.toInt ≤ y.toInt → G p l e R s m args below meth c n0 h0 ws Q cells slots h (mkF m pcT ls st)) (k2 : y.toInt < x.toInt → G p l e R s m args below meth c n0 h0 ws Q cells slots h (mkF m pc' ls st)) : G p l e R s m args below meth c n0 h0 ws Q cells slots h (mkF m pc ls (.long y :: .long x :: st)) :=
  G.lcmp B hd0 hp0 (G.if_le B hd ho hT hp (fun q => k1 (by have := c_lcmp x y; omega)) (fun q => k2 (by have := c_lcmp x y; omega)))
theorem G.ifnull_t {b : Addr} {o : Int} {pcT : Nat} (B : Cx p s m meth c Z own nm bytes maxL rt n0 h0 ws) (hd : decode bytes pc = .ok (.ifnull o, 3)) (ho : 0 ≤ (pc : Int) + o) (hT : ((pc : Int) + o).toNat = pcT) (kk : G p l e R s m args below meth c n0 h0 ws Q cells slots h (mkF m pcT ls st)) : G p l e R s m args below meth c n0 h0 ws Q cells slots h (mkF m pc ls (.null :: st)) :=
  G.stepX (fun T locs k n t X _ q => XS.ifnullYes X.here B.1.1 rfl (pc0 := pc) (pc' := pcT) rfl (hb B.1.2.1 hd) rfl ho hT q) kk
theorem G.ifnull_f {b : Addr} {o : Int} (B : Cx p s m meth c Z own nm bytes maxL rt n0 h0 ws) (hd : decode bytes pc = .ok (.ifnull o, 3)) (hp : pc + 3 = pc') (kk : G p l e R s m args below meth c n0 h0 ws Q cells slots h (mkF m pc' ls st)) : G p l e R s m args below meth c n0 h0 ws Q cells slots h (mkF m pc ls (.ref b :: st)) := by
  subst hp
  exact G.stepX (fun T locs k n t X _ q => XS.ifnullNo X.here B.1.1 rfl (hb B.1.2.1 hd) rfl q) kk
theorem G.ifnonnull_t {b : Addr} {o : Int} {pcT : Nat} (B : Cx p s m meth c Z own nm bytes maxL rt n0 h0 ws) (hd : decode bytes pc = .ok (.ifnonnull o, 3)) (ho : 0 ≤ (pc : Int) + o) (hT : ((pc : Int) + o).toNat = pcT) (kk : G p l e R s m args below meth c n0 h0 ws Q cells slots h (mkF m pcT ls st)) : G p l e R s m args below meth c n0 h0 ws Q cells slots h (mkF m pc ls (.ref b :: st)) :=
  G.stepX (fun T locs k n t X _ q => XS.ifnonnullYes X.here B.1.1 rfl (pc0 := pc) (pc' := pcT) rfl (hb B.1.2.1 hd) rfl ho hT q) kk
theorem G.ifnonnull_f {b : Addr} {o : Int} (B : Cx p s m meth c Z own nm bytes maxL rt n0 h0 ws) (hd : decode bytes pc = .ok (.ifnonnull o, 3)) (hp : pc + 3 = pc') (kk : G p l e R s m args below meth c n0 h0 ws Q cells slots h (mkF m pc' ls st)) : G p l e R s m args below meth c n0 h0 ws Q cells slots h (mkF m pc ls (.null :: st)) := by
  subst hp
  exact G.stepX (fun T locs k n t X _ q => XS.ifnonnullNo X.here B.1.1 rfl (hb B.1.2.1 hd) rfl q) kk
theorem G.ldc2 {index : Nat} {v : Int64} (B : Cx p s m meth c Z own nm bytes maxL rt n0 h0 ws) (w : (Jvm.Cond.constantLong own index v).before a0 Z = true) (hd : decode bytes pc = .ok (.ldc2_w index, 3)) (hp : pc + 3 = pc') (kk : G p l e R s m args below meth c n0 h0 ws Q cells slots h (mkF m pc' ls (.long v :: st))) : G p l e R s m args below meth c n0 h0 ws Q cells slots h (mkF m pc ls st) := by
  subst hp
  exact G.stepX (fun T locs k n t X _ q => X.ldc2Long B.1.1 B.1.2.2.2.1 (mvT B.1.2.2.2.2 w) (g := mkF m pc ls st) rfl (hb B.1.2.1 hd) t q) kk
theorem G.ldcI {index : Nat} {v : Int32} (B : Cx p s m meth c Z own nm bytes maxL rt n0 h0 ws) (w : (Jvm.Cond.constant own index v).before a0 Z = true) (hd : decode bytes pc = .ok (.ldc index, 2)) (hp : pc + 2 = pc') (kk : G p l e R s m args below meth c n0 h0 ws Q cells slots h (mkF m pc' ls (.int v :: st))) : G p l e R s m args below meth c n0 h0 ws Q cells slots h (mkF m pc ls st) := by
  subst hp
  exact G.stepX (fun T locs k n t X _ q => X.ldcInt B.1.1 B.1.2.2.2.1 (mvT B.1.2.2.2.2 w) (g := mkF m pc ls st) rfl (hb B.1.2.1 hd) t q) kk
theorem G.ldcW {index : Nat} {v : Int32} (B : Cx p s m meth c Z own nm bytes maxL rt n0 h0 ws) (w : (Jvm.Cond.constant own index v).before a0 Z = true) (hd : decode bytes pc = .ok (.ldc_w index, 3)) (hp : pc + 3 = pc') (kk : G p l e R s m args below meth c n0 h0 ws Q cells slots h (mkF m pc' ls (.int v :: st))) : G p l e R s m args below meth c n0 h0 ws Q cells slots h (mkF m pc ls st) := by
  subst hp
  exact G.stepX (fun T locs k n t X _ q => X.ldcwInt B.1.1 B.1.2.2.2.1 (mvT B.1.2.2.2.2 w) (g := mkF m pc ls st) rfl (hb B.1.2.1 hd) t q) kk
theorem G.retV {Q' : Heap → Prop} (B : Cx p s m meth c Z own nm bytes maxL none n0 h0 ws) (hd : decode bytes pc = .ok (.return_, 1)) (hc : cells ≤ R.cells) (hs : slots ≤ R.slots) (hQ : Q' h) : G p l e R s m args below meth c n0 h0 ws (RV Q') cells slots h (mkF m pc ls []) :=
  G.out (v := none) B (fun _ => rfl) hc hs ⟨rfl, hQ⟩ (fun T locs k n fs X hr => X.returnOut B.1.1 B.2.1 (hb B.1.2.1 hd) hr)
theorem G.retI {Q' : Int32 → Heap → Prop} {z : Int32} (B : Cx p s m meth c Z own nm bytes maxL (some .int) n0 h0 ws) (hd : decode bytes pc = .ok (.ireturn, 1)) (hc : cells ≤ R.cells) (hs : slots ≤ R.slots) (hQ : Q' z h) : G p l e R s m args below meth c n0 h0 ws (RI Q') cells slots h (mkF m pc ls (.int z :: st)) :=
  G.out (v := some (.int z)) B (fun q => nomatch q) hc hs ⟨z, rfl, hQ⟩ (fun T locs k n fs X hr => Jvm.RoadKit.retI X B.1.1 B.2.1 (hb B.1.2.1 hd) hr)
theorem G.retN {Q' : Int32 → Heap → Prop} {z : Int32} {t : FieldType} (B : Cx p s m meth c Z own nm bytes maxL (some t) n0 h0 ws) (ht : t = .boolean ∨ t = .byte ∨ t = .char ∨ t = .short) (hd : decode bytes pc = .ok (.ireturn, 1)) (hc : cells ≤ R.cells) (hs : slots ≤ R.slots) (hQ : Q' (nar t z) h) : G p l e R s m args below meth c n0 h0 ws (RI Q') cells slots h (mkF m pc ls (.int z :: st)) :=
  G.out (v := some (.int (nar t z))) B (fun q => nomatch q) hc hs ⟨_, rfl, hQ⟩ (fun T locs k n fs X hr => Jvm.RoadKit.retN X B.1.1 B.2.1 ht (hb B.1.2.1 hd) hr)
theorem G.retZ {Q' : Int32 → Heap → Prop} {z : Int32} (B : Cx p s m meth c Z own nm bytes maxL (some .boolean) n0 h0 ws) (hd : decode bytes pc = .ok (.ireturn, 1)) (hc : cells ≤ R.cells) (hs : slots ≤ R.slots) (hz : z = 0 ∨ z = 1) (hQ : Q' z h) : G p l e R s m args below meth c n0 h0 ws (RI Q') cells slots h (mkF m pc ls (.int z :: st)) :=
  G.retN B (Or.inl rfl) hd hc hs (by rcases hz with rfl | rfl <;> exact hQ)
theorem own_retJ {T : State} {locs : List Loc} {Ls : Array Slot} {w : Int64} {rest : List Value} (X : Stand p l e R s m args below meth c T locs cells slots) (hx : p.tables.exec = Jvm.exec) (hret : meth.sig.returnType = some .long) (hd : decode c.code pc = .ok (.lreturn, 1)) {fs : List Frame}
    (hr : ∀ (f : JFrame) (acts : List Action), f.method = m → f.locked = none → f.entered = [] → (doReturn e (T.setTop f) acts (some (.long w))).1 = T.setFrames fs) : Steps p.tables e below (T.setTop (mkF m pc Ls (.long w :: rest))) (T.setFrames fs) := by
  have hm' : T.vm.method? m = some meth := X.method'
  show Steps p.tables e below (T.setTop { method := m, pc := pc, locals := Ls, stack := _ :: rest, locked := none }) _
  jvm_step X.here [X.here.top, hx, hd, hm', hret, narrow]
  first | (intro acts; rw [hr _ acts rfl rfl rfl]) | rw [hr _ _ rfl rfl rfl]
  exact Steps.refl _
theorem G.retJ {Q' : Int64 → Heap → Prop} {z : Int64} (B : Cx p s m meth c Z own nm bytes maxL (some .long) n0 h0 ws) (hd : decode bytes pc = .ok (.lreturn, 1)) (hc : cells ≤ R.cells) (hs : slots ≤ R.slots) (hQ : Q' z h) : G p l e R s m args below meth c n0 h0 ws (RJ Q') cells slots h (mkF m pc ls (.long z :: st)) :=
  G.out (v := some (.long z)) B (fun q => nomatch q) hc hs ⟨z, rfl, hQ⟩ (fun T locs k n fs X hr => own_retJ X B.1.1 B.2.1 (hb B.1.2.1 hd) hr)
theorem own_retA {T : State} {locs : List Loc} {Ls : Array Slot} {w : Addr} {rest : List Value} {t : FieldType} (X : Stand p l e R s m args below meth c T locs cells slots) (hx : p.tables.exec = Jvm.exec) (hret : meth.sig.returnType = some t) (ht : t.isReference = true) (hd : decode c.code pc = .ok (.areturn, 1)) {fs : List Frame}
    (hr : ∀ (f : JFrame) (acts : List Action), f.method = m → f.locked = none → f.entered = [] → (doReturn e (T.setTop f) acts (some (.ref w))).1 = T.setFrames fs) : Steps p.tables e below (T.setTop (mkF m pc Ls (.ref w :: rest))) (T.setFrames fs) := by
  have hm' : T.vm.method? m = some meth := X.method'
  show Steps p.tables e below (T.setTop { method := m, pc := pc, locals := Ls, stack := _ :: rest, locked := none }) _
  jvm_step X.here [X.here.top, hx, hd, hm', hret, Value.isRef, ht]
  first | (intro acts; rw [hr _ acts rfl rfl rfl]) | rw [hr _ _ rfl rfl rfl]
  exact Steps.refl _
theorem G.retA {Q' : Addr → Heap → Prop} {z : Addr} {t : FieldType} (B : Cx p s m meth c Z own nm bytes maxL (some t) n0 h0 ws) (ht : t.isReference = true) (hd : decode bytes pc = .ok (.areturn, 1)) (hc : cells ≤ R.cells) (hs : slots ≤ R.slots) (hQ : Q' z h) : G p l e R s m args below meth c n0 h0 ws (RA Q') cells slots h (mkF m pc ls (.ref z :: st)) :=
  G.out (v := some (.ref z)) B (fun q => nomatch q) hc hs ⟨z, rfl, hQ⟩ (fun T locs k n fs X hr => own_retA X B.1.1 B.2.1 ht (hb B.1.2.1 hd) hr)
theorem G.getF {R0 O n d host : String} {index : Nat} {a : Addr} {v : Value} (B : Cx p s m meth c Z own nm bytes maxL rt n0 h0 ws) (w : (Jvm.Cond.fieldLink own index R0 n d).before a0 Z = true ∨ (Jvm.Cond.fieldLinkNest own index R0 n d host).before a0 Z = true) (via : Via Z R0 O n d) (Fd : Fld Z h a O n d v) (hd : decode bytes pc = .ok (.getfield index, 3)) (hp : pc + 3 = pc') (kk : G p l e R s m args below meth c n0 h0 ws Q cells slots h (mkF m pc' ls (v :: st))) : G p l e R s m args below meth c n0 h0 ws Q cells slots h (mkF m pc ls (.ref a :: st)) := by
  subst hp
  exact G.stepT (fun T locs k n X eT => Jvm.RoadKit.getF X B.1.1 B.1.2.2.2.2 B.1.2.2.2.1 w via eT Fd (g := (mkF m pc ls (.ref a :: st))) rfl rfl (hb B.1.2.1 hd)) kk
theorem G.putF {R0 O n d C : String} {index kq : Nat} {ty : FieldType} {a : Addr} {v v' old : Value} (B : Cx p s m meth c Z own nm bytes maxL rt n0 h0 ws) (w : (Jvm.Cond.fieldLink own index R0 n d).before a0 Z = true) (via : Via Z R0 O n d) (Fd : Fld Z h a O n d old) (E : Exa Z h a C) (L : (Jvm.Cond.lays C O n d).before a0 Z = true ∨ ((Jvm.Cond.laysFinal C O n d).before a0 Z = true ∧ own = O ∧ nm = "<init>")) (wi : (Jvm.Cond.instantiable C kq).before a0 Z = true)
    (hty : parseFieldDescriptor d = some ty) (hn : narrow ty v = v') (hf : fits ty v' = true) (ha : a ∈ ws ∨ h0.size ≤ a) (hd : decode bytes pc = .ok (.putfield index, 3)) (hp : pc + 3 = pc') (kk : ∀ h', Wr h h' a (Jvm.RoadKit.slotOf Z O n d) v' → G p l e R s m args below meth c n0 h0 ws Q cells slots h' (mkF m pc' ls st)) : G p l e R s m args below meth c n0 h0 ws Q cells slots h (mkF m pc ls (v :: .ref a :: st)) := by
  subst hp
  exact G.wr B ha (fun T locs k n X eT => Jvm.RoadKit.putFN X B.1.1 B.1.2.2.2.2 B.1.2.2.2.1 w via eT Fd E (L.imp id (fun q => ⟨q.1, q.2.1, B.2.2.2.1.trans q.2.2⟩)) wi hty hn hf (g := (mkF m pc ls (v :: .ref a :: st))) rfl rfl (hb B.1.2.1 hd)) kk
theorem G.newO {C : String} {index q : Nat} (B : Cx p s m meth c Z own nm bytes maxL rt n0 h0 ws) (w : (Jvm.Cond.classLink own index C).before a0 Z = true) (wi : (Jvm.Cond.instantiable C q).before a0 Z = true) (wz : (Jvm.Cond.initialized C).before a0 Z = true) (hd : decode bytes pc = .ok (.new index, 3)) (hp : pc + 3 = pc') (hc : cells + 1 ≤ R.cells) (hl : slots + q ≤ R.slots)
    (kk : ∀ h' a, a = h.size → h0.size ≤ a → Keep h h' [] → a < h'.size → Exa Z h' a C → (∀ {O n d : String} {ty : FieldType}, Laid Z a0 C O n d → parseFieldDescriptor d = some ty → Fld Z h' a O n d (defaultValue ty)) → G p l e R s m args below meth c n0 h0 ws Q (cells + 1) (slots + q) h' (mkF m pc' ls (.ref a :: st))) : G p l e R s m args below meth c n0 h0 ws Q cells slots h (mkF m pc ls st) := fun T locs k n X hk hn eT N K => by
  subst hp
  obtain ⟨T', h', X', e', E', A', D', -, stp⟩ := Jvm.RoadKit.newO X B.1.1 B.1.2.2.2.2 B.1.2.2.2.1 w wi wz eT (g := (mkF m pc ls st)) rfl (hb B.1.2.1 hd) (Nat.le_trans (Nat.add_le_add_right hk 1) hc) (Nat.le_trans (Nat.add_le_add_right hn q) hl)
  obtain ⟨U, v, L, hs, r⟩ := kk h' h.size rfl K.1 ((Keep.refl h []).ext E') A'.lt A' D' T' locs (k + 1) (n + q) X' (Nat.add_le_add_right hk 1) (Nat.add_le_add_right hn q) e' N (K.ext E')
  exact ⟨U, v, L, stp U hs, r⟩
theorem G.initO {index W : Nat} {a : Addr} (B : Cx p s m meth c Z own nm bytes maxL rt n0 h0 ws) (w1 : (Jvm.Cond.methodLink own index Lib.objectInit).before a0 Z = true) (w2 : (Jvm.Cond.instanceMethod Lib.objectInit).before a0 Z = true) (w3 : (Jvm.Cond.code Lib.objectInit ⟨#[0xb1]⟩ 1 none).before a0 Z = true) (hsz : ls.size = maxL) (hd : decode bytes pc = .ok (.invokespecial index, 3)) (hp : pc + 3 = pc') (hf : 1 ≤ R.frames) (hW : 2 * 0 + (st.map fun v => v.category).sum ≤ W) (hl : W + 12 ≤ R.locals) (kk : G p l e R s m args below meth c n0 h0 ws Q cells slots h (mkF m pc' ls st)) : G p l e R s m args below meth c n0 h0 ws Q cells slots h (mkF m pc ls (.ref a :: st)) := by
  subst hp
  exact G.stepT (fun T locs k n X eT => Jvm.RoadKit.initO X B.1.1 B.1.2.2.2.2 B.1.2.2.2.1 w1 w2 w3 eT (g := (mkF m pc ls (.ref a :: st))) rfl (hsz.trans B.1.2.2.1.symm) rfl (hb B.1.2.1 hd) hf (W := W) hW hl) kk
/-- an array of longs, of length n, its elements f -/
def ArJ (Z : State) (h : Heap) (a : Addr) (n : Nat) (f : Nat → Int64) : Prop := ∃ cl : Cell, Arr Z h a cl .long ∧ cl.slots.size = n ∧ n < 2147483648 ∧ ∀ i, i < n → cl.slots[i]? = some (.long (f i))
/-- an array of ints, bytes, booleans, chars or shorts -/
def ArI (Z : State) (h : Heap) (a : Addr) (ty : FieldType) (n : Nat) (f : Nat → Int32) : Prop := ∃ cl : Cell, Arr Z h a cl ty ∧ cl.slots.size = n ∧ n < 2147483648 ∧ ∀ i, i < n → cl.slots[i]? = some (.int (f i))
/-- f with v at the place j -/
def up {α : Type} (f : Nat → α) (j : Nat) (v : α) : Nat → α := fun i => if i = j then v else f i
theorem ArJ.lt {a : Addr} {n : Nat} {f : Nat → Int64} (A : ArJ Z h a n f) : a < h.size := by obtain ⟨cl, A, -⟩ := A; exact A.lt
theorem ArI.lt {a : Addr} {ty : FieldType} {n : Nat} {f : Nat → Int32} (A : ArI Z h a ty n f) : a < h.size := by obtain ⟨cl, A, -⟩ := A; exact A.lt
theorem ArJ.keep {a : Addr} {n : Nat} {f : Nat → Int64} {h' : Heap} {vs : List Addr} (A : ArJ Z h a n f) (K : Keep h h' vs) (q : a ∉ vs) : ArJ Z h' a n f := by obtain ⟨cl, A, r⟩ := A; exact ⟨cl, ⟨K.2.1 a cl A.1 q, A.2⟩, r⟩
theorem ArI.keep {a : Addr} {ty : FieldType} {n : Nat} {f : Nat → Int32} {h' : Heap} {vs : List Addr} (A : ArI Z h a ty n f) (K : Keep h h' vs) (q : a ∉ vs) : ArI Z h' a ty n f := by obtain ⟨cl, A, r⟩ := A; exact ⟨cl, ⟨K.2.1 a cl A.1 q, A.2⟩, r⟩
theorem own_idx {j : Int32} {i n : Nat} (hj : j.toInt = (i : Int)) (hi : i < n) : ¬ (j < 0 ∨ n ≤ j.toNatClampNeg) ∧ j.toNatClampNeg = i := by
  have h1 : j.toNatClampNeg = i := by show j.toInt.toNat = i; omega
  refine ⟨?_, h1⟩
  rintro (q | q)
  · rw [Int32.lt_iff_toInt_lt, Int32.toInt_zero] at q; omega
  · omega
theorem own_set {a : Addr} {cl : Cell} {ty : FieldType} {h' : Heap} {i n : Nat} {v : Value} {g : Nat → Value} (A : Arr Z h a cl ty) (hs : cl.slots.size = n) (hv : ∀ i, i < n → cl.slots[i]? = some (g i)) (W : Wr h h' a i v) : ∃ cl' : Cell, Arr Z h' a cl' ty ∧ cl'.slots.size = n ∧ ∀ k, k < n → cl'.slots[k]? = some (if k = i then v else g k) := by
  obtain ⟨cb', q1, q2, q3, q4, q5, q6, q7⟩ := wr_at W A.1
  obtain ⟨r1, r2, r3⟩ := q7 rfl
  subst r1
  refine ⟨_, A.same W, q4.trans hs, fun k hk => ?_⟩
  by_cases e : k = i
  · subst e; rw [if_pos rfl]; exact r2
  · rw [if_neg e, q6 k e]; exact hv k hk
theorem ArJ.set {a : Addr} {n : Nat} {f : Nat → Int64} {h' : Heap} {i : Nat} {v : Int64} (A : ArJ Z h a n f) (W : Wr h h' a i (.long v)) : ArJ Z h' a n (up f i v) := by
  obtain ⟨cl, A, hs, hn, hv⟩ := A
  obtain ⟨cl', A', hs', hv'⟩ := own_set (g := fun i => .long (f i)) A hs hv W
  refine ⟨cl', A', hs', hn, fun k hk => ?_⟩
  rw [hv' k hk]; unfold up; split <;> rfl
theorem ArI.set {a : Addr} {ty : FieldType} {n : Nat} {f : Nat → Int32} {h' : Heap} {i : Nat} {v : Int32} (A : ArI Z h a ty n f) (W : Wr h h' a i (.int v)) : ArI Z h' a ty n (up f i v) := by
  obtain ⟨cl, A, hs, hn, hv⟩ := A
  obtain ⟨cl', A', hs', hv'⟩ := own_set (g := fun i => .int (f i)) A hs hv W
  refine ⟨cl', A', hs', hn, fun k hk => ?_⟩
  rw [hv' k hk]; unfold up; split <;> rfl
theorem ArJ.congr {a : Addr} {n : Nat} {f g : Nat → Int64} (A : ArJ Z h a n f) (q : ∀ i, i < n → f i = g i) : ArJ Z h a n g := by
  obtain ⟨cl, A, hs, hn, hv⟩ := A
  exact ⟨cl, A, hs, hn, fun i hi => by rw [← q i hi]; exact hv i hi⟩
theorem ArI.congr {a : Addr} {ty : FieldType} {n : Nat} {f g : Nat → Int32} (A : ArI Z h a ty n f) (q : ∀ i, i < n → f i = g i) : ArI Z h a ty n g := by
  obtain ⟨cl, A, hs, hn, hv⟩ := A
  exact ⟨cl, A, hs, hn, fun i hi => by rw [← q i hi]; exact hv i hi⟩
theorem G.stJ {a : Addr} {j : Int32} {i n : Nat} {f : Nat → Int64} {x : Int64} (B : Cx p s m meth c Z own nm bytes maxL rt n0 h0 ws) (A : ArJ Z h a n f) (hj : j.toInt = (i : Int)) (hi : i < n) (ha : a ∈ ws ∨ h0.size ≤ a) (hd : decode bytes pc = .ok (.lastore, 1)) (hp : pc + 1 = pc') (kk : ∀ h', Keep h h' [a] → ArJ Z h' a n (up f i x) → G p l e R s m args below meth c n0 h0 ws Q cells slots h' (mkF m pc' ls st)) : G p l e R s m args below meth c n0 h0 ws Q cells slots h (mkF m pc ls (.long x :: .int j :: .ref a :: st)) := by
  subst hp
  have A0 := A
  obtain ⟨cl, A, hs, hn, hv⟩ := A
  obtain ⟨hin, hjn⟩ := own_idx hj (hs.symm ▸ hi : i < cl.slots.size)
  exact G.wr B ha (fun T locs k n X eT => Jvm.RoadKit.stJ X B.1.1 B.1.2.2.2.2 eT A (j := j) hin (g := (mkF m pc ls (.long x :: .int j :: .ref a :: st))) rfl rfl (hb B.1.2.1 hd)) (fun h' W => kk h' (Keep.of_wr W) (A0.set (hjn ▸ W)))
theorem G.stI {a : Addr} {j : Int32} {i n : Nat} {f : Nat → Int32} {x : Int32} (B : Cx p s m meth c Z own nm bytes maxL rt n0 h0 ws) (A : ArI Z h a .int n f) (hj : j.toInt = (i : Int)) (hi : i < n) (ha : a ∈ ws ∨ h0.size ≤ a) (hd : decode bytes pc = .ok (.iastore, 1)) (hp : pc + 1 = pc') (kk : ∀ h', Keep h h' [a] → ArI Z h' a .int n (up f i x) → G p l e R s m args below meth c n0 h0 ws Q cells slots h' (mkF m pc' ls st)) : G p l e R s m args below meth c n0 h0 ws Q cells slots h (mkF m pc ls (.int x :: .int j :: .ref a :: st)) := by
  subst hp
  have A0 := A
  obtain ⟨cl, A, hs, hn, hv⟩ := A
  obtain ⟨hin, hjn⟩ := own_idx hj (hs.symm ▸ hi : i < cl.slots.size)
  exact G.wr B ha (fun T locs k n X eT => Jvm.RoadKit.stI X B.1.1 B.1.2.2.2.2 eT A (j := j) hin (g := (mkF m pc ls (.int x :: .int j :: .ref a :: st))) rfl rfl (hb B.1.2.1 hd)) (fun h' W => kk h' (Keep.of_wr W) (A0.set (hjn ▸ W)))
theorem G.stB {a : Addr} {j : Int32} {i n : Nat} {f : Nat → Int32} {x z : Int32} (B : Cx p s m meth c Z own nm bytes maxL rt n0 h0 ws) (A : ArI Z h a .byte n f) (hj : j.toInt = (i : Int)) (hi : i < n) (ha : a ∈ ws ∨ h0.size ≤ a) (hz : nar .byte x = z) (hd : decode bytes pc = .ok (.bastore, 1)) (hp : pc + 1 = pc') (kk : ∀ h', Keep h h' [a] → ArI Z h' a .byte n (up f i z) → G p l e R s m args below meth c n0 h0 ws Q cells slots h' (mkF m pc' ls st)) : G p l e R s m args below meth c n0 h0 ws Q cells slots h (mkF m pc ls (.int x :: .int j :: .ref a :: st)) := by
  subst hp hz
  have A0 := A
  obtain ⟨cl, A, hs, hn, hv⟩ := A
  obtain ⟨hin, hjn⟩ := own_idx hj (hs.symm ▸ hi : i < cl.slots.size)
  exact G.wr B ha (fun T locs k n X eT => Jvm.RoadKit.stB X B.1.1 B.1.2.2.2.2 eT A (j := j) hin (g := (mkF m pc ls (.int x :: .int j :: .ref a :: st))) rfl rfl (hb B.1.2.1 hd)) (fun h' W => kk h' (Keep.of_wr W) (A0.set (hjn ▸ W)))
theorem G.stZ {a : Addr} {j : Int32} {i n : Nat} {f : Nat → Int32} {x z : Int32} (B : Cx p s m meth c Z own nm bytes maxL rt n0 h0 ws) (A : ArI Z h a .boolean n f) (hj : j.toInt = (i : Int)) (hi : i < n) (ha : a ∈ ws ∨ h0.size ≤ a) (hz : nar .boolean x = z) (hd : decode bytes pc = .ok (.bastore, 1)) (hp : pc + 1 = pc') (kk : ∀ h', Keep h h' [a] → ArI Z h' a .boolean n (up f i z) → G p l e R s m args below meth c n0 h0 ws Q cells slots h' (mkF m pc' ls st)) : G p l e R s m args below meth c n0 h0 ws Q cells slots h (mkF m pc ls (.int x :: .int j :: .ref a :: st)) := by
  subst hp hz
  have A0 := A
  obtain ⟨cl, A, hs, hn, hv⟩ := A
  obtain ⟨hin, hjn⟩ := own_idx hj (hs.symm ▸ hi : i < cl.slots.size)
  exact G.wr B ha (fun T locs k n X eT => Jvm.RoadKit.stZ X B.1.1 B.1.2.2.2.2 eT A (j := j) hin (g := (mkF m pc ls (.int x :: .int j :: .ref a :: st))) rfl rfl (hb B.1.2.1 hd)) (fun h' W => kk h' (Keep.of_wr W) (A0.set (hjn ▸ W)))
theorem G.stC {a : Addr} {j : Int32} {i n : Nat} {f : Nat → Int32} {x z : Int32} (B : Cx p s m meth c Z own nm bytes maxL rt n0 h0 ws) (A : ArI Z h a .char n f) (hj : j.toInt = (i : Int)) (hi : i < n) (ha : a ∈ ws ∨ h0.size ≤ a) (hz : nar .char x = z) (hd : decode bytes pc = .ok (.castore, 1)) (hp : pc + 1 = pc') (kk : ∀ h', Keep h h' [a] → ArI Z h' a .char n (up f i z) → G p l e R s m args below meth c n0 h0 ws Q cells slots h' (mkF m pc' ls st)) : G p l e R s m args below meth c n0 h0 ws Q cells slots h (mkF m pc ls (.int x :: .int j :: .ref a :: st)) := by
  subst hp hz
  have A0 := A
  obtain ⟨cl, A, hs, hn, hv⟩ := A
  obtain ⟨hin, hjn⟩ := own_idx hj (hs.symm ▸ hi : i < cl.slots.size)
  exact G.wr B ha (fun T locs k n X eT => Jvm.RoadKit.stC X B.1.1 B.1.2.2.2.2 eT A (j := j) hin (g := (mkF m pc ls (.int x :: .int j :: .ref a :: st))) rfl rfl (hb B.1.2.1 hd)) (fun h' W => kk h' (Keep.of_wr W) (A0.set (hjn ▸ W)))
theorem G.ldJ {a : Addr} {j : Int32} {i n : Nat} {f : Nat → Int64} {x : Int64} (B : Cx p s m meth c Z own nm bytes maxL rt n0 h0 ws) (A : ArJ Z h a n f) (hj : j.toInt = (i : Int)) (hi : i < n) (hv : f i = x) (hd : decode bytes pc = .ok (.laload, 1)) (hp : pc + 1 = pc') (kk : G p l e R s m args below meth c n0 h0 ws Q cells slots h (mkF m pc' ls (.long x :: st))) : G p l e R s m args below meth c n0 h0 ws Q cells slots h (mkF m pc ls (.int j :: .ref a :: st)) := by
  subst hp hv
  obtain ⟨cl, A, hs, hn, hv⟩ := A
  obtain ⟨hin, hjn⟩ := own_idx hj (hs.symm ▸ hi : i < cl.slots.size)
  exact G.stepX (fun T locs k n t X eT q => X.laload B.1.1 (j := j) (by rw [eT]; exact A.1) (State.isArrayOf_alike B.1.2.2.2.2.alike A.2.1) A.2.2 hin (by rw [hjn]; exact hv i hi) (g := (mkF m pc ls (.int j :: .ref a :: st))) rfl rfl (hb B.1.2.1 hd) _ q) kk
theorem G.ldI {a : Addr} {j : Int32} {i n : Nat} {f : Nat → Int32} {x : Int32} (B : Cx p s m meth c Z own nm bytes maxL rt n0 h0 ws) (A : ArI Z h a .int n f) (hj : j.toInt = (i : Int)) (hi : i < n) (hv : f i = x) (hd : decode bytes pc = .ok (.iaload, 1)) (hp : pc + 1 = pc') (kk : G p l e R s m args below meth c n0 h0 ws Q cells slots h (mkF m pc' ls (.int x :: st))) : G p l e R s m args below meth c n0 h0 ws Q cells slots h (mkF m pc ls (.int j :: .ref a :: st)) := by
  subst hp hv
  obtain ⟨cl, A, hs, hn, hv⟩ := A
  obtain ⟨hin, hjn⟩ := own_idx hj (hs.symm ▸ hi : i < cl.slots.size)
  exact G.stepX (fun T locs k n t X eT q => X.iaload B.1.1 (j := j) (by rw [eT]; exact A.1) (State.isArrayOf_alike B.1.2.2.2.2.alike A.2.1) A.2.2 hin (by rw [hjn]; exact hv i hi) (g := (mkF m pc ls (.int j :: .ref a :: st))) rfl rfl (hb B.1.2.1 hd) _ q) kk
theorem G.ldC {a : Addr} {j : Int32} {i n : Nat} {f : Nat → Int32} {x : Int32} (B : Cx p s m meth c Z own nm bytes maxL rt n0 h0 ws) (A : ArI Z h a .char n f) (hj : j.toInt = (i : Int)) (hi : i < n) (hv : f i = x) (hd : decode bytes pc = .ok (.caload, 1)) (hp : pc + 1 = pc') (kk : G p l e R s m args below meth c n0 h0 ws Q cells slots h (mkF m pc' ls (.int x :: st))) : G p l e R s m args below meth c n0 h0 ws Q cells slots h (mkF m pc ls (.int j :: .ref a :: st)) := by
  subst hp hv
  obtain ⟨cl, A, hs, hn, hv⟩ := A
  obtain ⟨hin, hjn⟩ := own_idx hj (hs.symm ▸ hi : i < cl.slots.size)
  exact G.stepX (fun T locs k n t X eT q => X.caload B.1.1 (j := j) (by rw [eT]; exact A.1) (State.isArrayOf_alike B.1.2.2.2.2.alike A.2.1) A.2.2 hin (by rw [hjn]; exact hv i hi) (g := (mkF m pc ls (.int j :: .ref a :: st))) rfl rfl (hb B.1.2.1 hd) _ q) kk
theorem G.ldB {a : Addr} {j : Int32} {i n : Nat} {f : Nat → Int32} {x : Int32} (B : Cx p s m meth c Z own nm bytes maxL rt n0 h0 ws) (A : ArI Z h a .byte n f) (hj : j.toInt = (i : Int)) (hi : i < n) (hv : f i = x) (hd : decode bytes pc = .ok (.baload, 1)) (hp : pc + 1 = pc') (kk : G p l e R s m args below meth c n0 h0 ws Q cells slots h (mkF m pc' ls (.int x :: st))) : G p l e R s m args below meth c n0 h0 ws Q cells slots h (mkF m pc ls (.int j :: .ref a :: st)) := by
  subst hp hv
  obtain ⟨cl, A, hs, hn, hv⟩ := A
  obtain ⟨hin, hjn⟩ := own_idx hj (hs.symm ▸ hi : i < cl.slots.size)
  exact G.stepX (fun T locs k n t X eT q => X.baloadBytes B.1.1 (j := j) (by rw [eT]; exact A.1) (State.isArrayOf_alike B.1.2.2.2.2.alike A.2.1) A.2.2 hin (by rw [hjn]; exact hv i hi) (g := (mkF m pc ls (.int j :: .ref a :: st))) rfl rfl (hb B.1.2.1 hd) _ q) kk
theorem G.ldZ {a : Addr} {j : Int32} {i n : Nat} {f : Nat → Int32} {x : Int32} (B : Cx p s m meth c Z own nm bytes maxL rt n0 h0 ws) (A : ArI Z h a .boolean n f) (hj : j.toInt = (i : Int)) (hi : i < n) (hv : f i = x) (hd : decode bytes pc = .ok (.baload, 1)) (hp : pc + 1 = pc') (kk : G p l e R s m args below meth c n0 h0 ws Q cells slots h (mkF m pc' ls (.int x :: st))) : G p l e R s m args below meth c n0 h0 ws Q cells slots h (mkF m pc ls (.int j :: .ref a :: st)) := by
  subst hp hv
  obtain ⟨cl, A, hs, hn, hv⟩ := A
  obtain ⟨hin, hjn⟩ := own_idx hj (hs.symm ▸ hi : i < cl.slots.size)
  exact G.stepX (fun T locs k n t X eT q => X.baloadBooleans B.1.1 (j := j) (by rw [eT]; exact A.1) (State.isArrayOf_alike B.1.2.2.2.2.alike A.2.1) A.2.2 hin (by rw [hjn]; exact hv i hi) (g := (mkF m pc ls (.int j :: .ref a :: st))) rfl rfl (hb B.1.2.1 hd) _ q) kk
theorem G.lenJ {a : Addr} {n : Nat} {z : Int32} {f : Nat → Int64} (B : Cx p s m meth c Z own nm bytes maxL rt n0 h0 ws) (A : ArJ Z h a n f) (hz : Int32.ofNat n = z) (hd : decode bytes pc = .ok (.arraylength, 1)) (hp : pc + 1 = pc') (kk : G p l e R s m args below meth c n0 h0 ws Q cells slots h (mkF m pc' ls (.int z :: st))) : G p l e R s m args below meth c n0 h0 ws Q cells slots h (mkF m pc ls (.ref a :: st)) := by
  subst hp hz
  obtain ⟨cl, A, hs, hn, hv⟩ := A
  subst hs
  exact G.stepX (fun T locs k n t X eT q => X.arraylength B.1.1 (by rw [eT]; exact A.1) (State.isArrayOf_alike B.1.2.2.2.2.alike A.2.1) (g := (mkF m pc ls (.ref a :: st))) rfl rfl (hb B.1.2.1 hd) _ q) kk
theorem G.lenI {a : Addr} {n : Nat} {z : Int32} {f : Nat → Int32} {ty : FieldType} (B : Cx p s m meth c Z own nm bytes maxL rt n0 h0 ws) (A : ArI Z h a ty n f) (hz : Int32.ofNat n = z) (hd : decode bytes pc = .ok (.arraylength, 1)) (hp : pc + 1 = pc') (kk : G p l e R s m args below meth c n0 h0 ws Q cells slots h (mkF m pc' ls (.int z :: st))) : G p l e R s m args below meth c n0 h0 ws Q cells slots h (mkF m pc ls (.ref a :: st)) := by
  subst hp hz
  obtain ⟨cl, A, hs, hn, hv⟩ := A
  subst hs
  exact G.stepX (fun T locs k n t X eT q => X.arraylength B.1.1 (by rw [eT]; exact A.1) (State.isArrayOf_alike B.1.2.2.2.2.alike A.2.1) (g := (mkF m pc ls (.ref a :: st))) rfl rfl (hb B.1.2.1 hd) _ q) kk
theorem own_newJ {a : Addr} {cA : ClassId} {z : Int32} {n : Nat} (A : Arr Z h a (newA cA .long z) .long) (hz : z.toInt = (n : Int)) : ArJ Z h a n (fun _ => 0) := by
  have hr := rng32 z
  have h1 : z.toNatClampNeg = n := by show z.toInt.toNat = n; omega
  exact ⟨_, A, (sz_new _ _ _).trans h1, by omega, fun i hi => by simp [newA, h1, hi, defaultValue]⟩
theorem own_newI {a : Addr} {cA : ClassId} {z : Int32} {n : Nat} {ty : FieldType} (hd : defaultValue ty = .int 0) (A : Arr Z h a (newA cA ty z) ty) (hz : z.toInt = (n : Int)) : ArI Z h a ty n (fun _ => 0) := by
  have hr := rng32 z
  have h1 : z.toNatClampNeg = n := by show z.toInt.toNat = n; omega
  exact ⟨_, A, (sz_new _ _ _).trans h1, by omega, fun i hi => by simp [newA, h1, hi, hd]⟩
theorem G.newJ {z : Int32} {n cap : Nat} (B : Cx p s m meth c Z own nm bytes maxL rt n0 h0 ws) (w : (Jvm.Cond.arrayClass .long).before a0 Z = true) (hz : z.toInt = (n : Int)) (hcap : n ≤ cap) (hb8 : cap * 8 ≤ 536870912) (hd : decode bytes pc = .ok (.newarray .long, 2)) (hp : pc + 2 = pc') (hc : cells + 1 ≤ R.cells) (hl : slots + cap ≤ R.slots)
    (kk : ∀ h' a, a = h.size → h0.size ≤ a → Keep h h' [] → ArJ Z h' a n (fun _ => 0) → G p l e R s m args below meth c n0 h0 ws Q (cells + 1) (slots + cap) h' (mkF m pc' ls (.ref a :: st))) : G p l e R s m args below meth c n0 h0 ws Q cells slots h (mkF m pc ls (.int z :: st)) := fun T locs k n' X hk hn eT N K => by
  subst hp
  have hr := rng32 z
  have h1 : z.toNatClampNeg = n := by show z.toInt.toNat = n; omega
  obtain ⟨T', h', cA, X', e', E', A', stp⟩ := Jvm.RoadKit.newP X B.1.1 B.1.2.2.2.2 (aty := .long) w eT (g := (mkF m pc ls (.int z :: st))) rfl (hb B.1.2.1 hd) rfl (fun q => by rw [Int32.lt_iff_toInt_lt, Int32.toInt_zero] at q; omega) (cap := cap) (by omega) hb8 (Nat.le_trans (Nat.add_le_add_right hk 1) hc) (Nat.le_trans (Nat.add_le_add_right hn cap) hl)
  obtain ⟨U, v, L, hs, r⟩ := kk h' h.size rfl K.1 ((Keep.refl h []).ext E') (own_newJ A' hz) T' locs (k + 1) (n' + cap) X' (Nat.add_le_add_right hk 1) (Nat.add_le_add_right hn cap) e' N (K.ext E')
  exact ⟨U, v, L, stp U hs, r⟩
theorem G.newI {z : Int32} {n cap : Nat} (B : Cx p s m meth c Z own nm bytes maxL rt n0 h0 ws) (w : (Jvm.Cond.arrayClass .int).before a0 Z = true) (hz : z.toInt = (n : Int)) (hcap : n ≤ cap) (hb8 : cap * 8 ≤ 536870912) (hd : decode bytes pc = .ok (.newarray .int, 2)) (hp : pc + 2 = pc') (hc : cells + 1 ≤ R.cells) (hl : slots + cap ≤ R.slots)
    (kk : ∀ h' a, a = h.size → h0.size ≤ a → Keep h h' [] → ArI Z h' a .int n (fun _ => 0) → G p l e R s m args below meth c n0 h0 ws Q (cells + 1) (slots + cap) h' (mkF m pc' ls (.ref a :: st))) : G p l e R s m args below meth c n0 h0 ws Q cells slots h (mkF m pc ls (.int z :: st)) := fun T locs k n' X hk hn eT N K => by
  subst hp
  have hr := rng32 z
  have h1 : z.toNatClampNeg = n := by show z.toInt.toNat = n; omega
  obtain ⟨T', h', cA, X', e', E', A', stp⟩ := Jvm.RoadKit.newP X B.1.1 B.1.2.2.2.2 (aty := .int) w eT (g := (mkF m pc ls (.int z :: st))) rfl (hb B.1.2.1 hd) rfl (fun q => by rw [Int32.lt_iff_toInt_lt, Int32.toInt_zero] at q; omega) (cap := cap) (by omega) hb8 (Nat.le_trans (Nat.add_le_add_right hk 1) hc) (Nat.le_trans (Nat.add_le_add_right hn cap) hl)
  obtain ⟨U, v, L, hs, r⟩ := kk h' h.size rfl K.1 ((Keep.refl h []).ext E') (own_newI rfl A' hz) T' locs (k + 1) (n' + cap) X' (Nat.add_le_add_right hk 1) (Nat.add_le_add_right hn cap) e' N (K.ext E')
  exact ⟨U, v, L, stp U hs, r⟩
theorem G.newB {z : Int32} {n cap : Nat} (B : Cx p s m meth c Z own nm bytes maxL rt n0 h0 ws) (w : (Jvm.Cond.arrayClass .byte).before a0 Z = true) (hz : z.toInt = (n : Int)) (hcap : n ≤ cap) (hb8 : cap * 8 ≤ 536870912) (hd : decode bytes pc = .ok (.newarray .byte, 2)) (hp : pc + 2 = pc') (hc : cells + 1 ≤ R.cells) (hl : slots + cap ≤ R.slots)
    (kk : ∀ h' a, a = h.size → h0.size ≤ a → Keep h h' [] → ArI Z h' a .byte n (fun _ => 0) → G p l e R s m args below meth c n0 h0 ws Q (cells + 1) (slots + cap) h' (mkF m pc' ls (.ref a :: st))) : G p l e R s m args below meth c n0 h0 ws Q cells slots h (mkF m pc ls (.int z :: st)) := fun T locs k n' X hk hn eT N K => by
  subst hp
  have hr := rng32 z
  have h1 : z.toNatClampNeg = n := by show z.toInt.toNat = n; omega
  obtain ⟨T', h', cA, X', e', E', A', stp⟩ := Jvm.RoadKit.newP X B.1.1 B.1.2.2.2.2 (aty := .byte) w eT (g := (mkF m pc ls (.int z :: st))) rfl (hb B.1.2.1 hd) rfl (fun q => by rw [Int32.lt_iff_toInt_lt, Int32.toInt_zero] at q; omega) (cap := cap) (by omega) hb8 (Nat.le_trans (Nat.add_le_add_right hk 1) hc) (Nat.le_trans (Nat.add_le_add_right hn cap) hl)
  obtain ⟨U, v, L, hs, r⟩ := kk h' h.size rfl K.1 ((Keep.refl h []).ext E') (own_newI rfl A' hz) T' locs (k + 1) (n' + cap) X' (Nat.add_le_add_right hk 1) (Nat.add_le_add_right hn cap) e' N (K.ext E')
  exact ⟨U, v, L, stp U hs, r⟩
theorem G.newZ {z : Int32} {n cap : Nat} (B : Cx p s m meth c Z own nm bytes maxL rt n0 h0 ws) (w : (Jvm.Cond.arrayClass .boolean).before a0 Z = true) (hz : z.toInt = (n : Int)) (hcap : n ≤ cap) (hb8 : cap * 8 ≤ 536870912) (hd : decode bytes pc = .ok (.newarray .boolean, 2)) (hp : pc + 2 = pc') (hc : cells + 1 ≤ R.cells) (hl : slots + cap ≤ R.slots)
    (kk : ∀ h' a, a = h.size → h0.size ≤ a → Keep h h' [] → ArI Z h' a .boolean n (fun _ => 0) → G p l e R s m args below meth c n0 h0 ws Q (cells + 1) (slots + cap) h' (mkF m pc' ls (.ref a :: st))) : G p l e R s m args below meth c n0 h0 ws Q cells slots h (mkF m pc ls (.int z :: st)) := fun T locs k n' X hk hn eT N K => by
  subst hp
  have hr := rng32 z
  have h1 : z.toNatClampNeg = n := by show z.toInt.toNat = n; omega
  obtain ⟨T', h', cA, X', e', E', A', stp⟩ := Jvm.RoadKit.newP X B.1.1 B.1.2.2.2.2 (aty := .boolean) w eT (g := (mkF m pc ls (.int z :: st))) rfl (hb B.1.2.1 hd) rfl (fun q => by rw [Int32.lt_iff_toInt_lt, Int32.toInt_zero] at q; omega) (cap := cap) (by omega) hb8 (Nat.le_trans (Nat.add_le_add_right hk 1) hc) (Nat.le_trans (Nat.add_le_add_right hn cap) hl)
  obtain ⟨U, v, L, hs, r⟩ := kk h' h.size rfl K.1 ((Keep.refl h []).ext E') (own_newI rfl A' hz) T' locs (k + 1) (n' + cap) X' (Nat.add_le_add_right hk 1) (Nat.add_le_add_right hn cap) e' N (K.ext E')
  exact ⟨U, v, L, stp U hs, r⟩
theorem G.newC {z : Int32} {n cap : Nat} (B : Cx p s m meth c Z own nm bytes maxL rt n0 h0 ws) (w : (Jvm.Cond.arrayClass .char).before a0 Z = true) (hz : z.toInt = (n : Int)) (hcap : n ≤ cap) (hb8 : cap * 8 ≤ 536870912) (hd : decode bytes pc = .ok (.newarray .char, 2)) (hp : pc + 2 = pc') (hc : cells + 1 ≤ R.cells) (hl : slots + cap ≤ R.slots)
    (kk : ∀ h' a, a = h.size → h0.size ≤ a → Keep h h' [] → ArI Z h' a .char n (fun _ => 0) → G p l e R s m args below meth c n0 h0 ws Q (cells + 1) (slots + cap) h' (mkF m pc' ls (.ref a :: st))) : G p l e R s m args below meth c n0 h0 ws Q cells slots h (mkF m pc ls (.int z :: st)) := fun T locs k n' X hk hn eT N K => by
  subst hp
  have hr := rng32 z
  have h1 : z.toNatClampNeg = n := by show z.toInt.toNat = n; omega
  obtain ⟨T', h', cA, X', e', E', A', stp⟩ := Jvm.RoadKit.newP X B.1.1 B.1.2.2.2.2 (aty := .char) w eT (g := (mkF m pc ls (.int z :: st))) rfl (hb B.1.2.1 hd) rfl (fun q => by rw [Int32.lt_iff_toInt_lt, Int32.toInt_zero] at q; omega) (cap := cap) (by omega) hb8 (Nat.le_trans (Nat.add_le_add_right hk 1) hc) (Nat.le_trans (Nat.add_le_add_right hn cap) hl)
  obtain ⟨U, v, L, hs, r⟩ := kk h' h.size rfl K.1 ((Keep.refl h []).ext E') (own_newI rfl A' hz) T' locs (k + 1) (n' + cap) X' (Nat.add_le_add_right hk 1) (Nat.add_le_add_right hn cap) e' N (K.ext E')
  exact ⟨U, v, L, stp U hs, r⟩
theorem own_back {y : MethodName} {bytes' : ByteArray} {maxL' : Nat} {rt' : Option FieldType} {rm : Room} {as' : Array Value} {ws' : List Addr} {Q' : Option Value → Heap → Prop} {len W : Nat} (B : Cx p s m meth c Z own nm bytes maxL rt n0 h0 ws) (M : Mt l Z y bytes' maxL' rt' [] rm n0 as' h ws' Q') (wc : (Jvm.Cond.code y bytes' maxL' rt').before a0 Z = true) (wz : (Jvm.Cond.initialized y.cls).before a0 Z = true) (hf : rm.frames + 1 ≤ R.frames) (hl : W + (maxL' + 11) + rm.locals ≤ R.locals) :
    Back l R p e below s args y len W (fun A a => a = as' ∧ A.U.heap = h ∧ A.cells + rm.cells ≤ R.cells ∧ A.slots + rm.slots ≤ R.slots) (fun A _ v B => ∃ L, (Fr n0 L ∧ Keep h B.U.heap ws' ∧ Q' v B.U.heap) ∧ B.locs = A.locs ++ L ∧ B.cells = A.cells + rm.cells ∧ B.slots = A.slots + rm.slots) :=
  backOf (Q := fun v hh L => Fr n0 L ∧ Keep h hh ws' ∧ Q' v hh) M B.1.2.2.2.2 wc wz hf hl
theorem G.callS {y : MethodName} {bytes' : ByteArray} {maxL' : Nat} {rt' : Option FieldType} {rm : Room} {ws' : List Addr} {Q' : Option Value → Heap → Prop} {index W : Nat} {argsL rest : List Value} (B : Cx p s m meth c Z own nm bytes maxL rt n0 h0 ws) (w1 : (Jvm.Cond.methodLink own index y).before a0 Z = true) (w2 : (Jvm.Cond.static y).before a0 Z = true) (M : Mt l Z y bytes' maxL' rt' [] rm n0 argsL.toArray h ws' Q') (hws : ∀ x ∈ ws', x ∈ ws ∨ h0.size ≤ x) (wc : (Jvm.Cond.code y bytes' maxL' rt').before a0 Z = true) (wz : (Jvm.Cond.initialized y.cls).before a0 Z = true) (hy : y.cls ≠ "java/lang/invoke/MethodHandle" ∧ y.cls ≠ "java/lang/invoke/VarHandle") (hsz : ls.size = maxL) (hst : st = argsL.reverse ++ rest) (hlen : ∀ sig, parseMethodDescriptor y.desc = some sig → argsL.length = sig.parameters.length) (hf : rm.frames + 1 ≤ R.frames) (hW : 2 * 0 + (rest.map fun v => v.category).sum ≤ W) (hl : W + (maxL' + 11) + rm.locals ≤ R.locals) (hc : cells + rm.cells ≤ R.cells) (hs : slots + rm.slots ≤ R.slots) (hd : decode bytes pc = .ok (.invokestatic index, 3)) (hp : pc + 3 = pc')
    (kk : ∀ v h', Keep h h' ws' → Q' v h' → G p l e R s m args below meth c n0 h0 ws Q (cells + rm.cells) (slots + rm.slots) h' (mkF m pc' ls (v.toList ++ rest))) : G p l e R s m args below meth c n0 h0 ws Q cells slots h (mkF m pc ls st) := fun T locs k n X hk hn eT N K => by
  subst hp hst
  obtain ⟨v, _, ⟨T', L', k', n'⟩, -, X', ⟨Lc, hQ, l1, y1, z1⟩, stp⟩ := Jvm.LawKit.callS X B.1.1 (y := y) B.1.2.2.2.1 (mvT B.1.2.2.2.2 w1) (mvT B.1.2.2.2.2 w2) (mvT B.1.2.2.2.2 wz) (mvT B.1.2.2.2.2 wc) hy (own_back (W := W) B M wc wz hf hl) (g := (mkF m pc ls (argsL.reverse ++ rest))) rfl (hsz.trans B.1.2.2.1.symm) (argsL := argsL) (rest := rest) hlen rfl hW (hb B.1.2.1 hd) (fun _ _ => ⟨rfl, eT, Nat.le_trans (Nat.add_le_add_right hk _) hc, Nat.le_trans (Nat.add_le_add_right hn _) hs⟩)
  dsimp only [Pt.U, Pt.locs, Pt.cells, Pt.slots] at X' l1 y1 z1 stp hQ
  subst l1 y1 z1
  obtain ⟨U, v, L, hs', r⟩ := kk v T'.heap hQ.2.1 hQ.2.2 T' (locs ++ Lc) _ _ X' (Nat.add_le_add_right hk _) (Nat.add_le_add_right hn _) rfl (Fr.app N hQ.1) (K.trans hQ.2.1 hws)
  exact ⟨U, v, L, stp _ hs', r⟩
theorem G.callC {a : Addr} {y : MethodName} {bytes' : ByteArray} {maxL' : Nat} {rt' : Option FieldType} {rm : Room} {ws' : List Addr} {Q' : Option Value → Heap → Prop} {index W : Nat} {argsL rest : List Value} (B : Cx p s m meth c Z own nm bytes maxL rt n0 h0 ws) (w0 : y.name = "<init>") (w1 : (Jvm.Cond.methodLink own index y).before a0 Z = true) (w2 : (Jvm.Cond.instanceMethod y).before a0 Z = true) (hrt : rt' = none) (M : Mt l Z y bytes' maxL' rt' [] rm n0 (.ref a :: argsL).toArray h ws' Q') (hws : ∀ x ∈ ws', x ∈ ws ∨ h0.size ≤ x) (wc : (Jvm.Cond.code y bytes' maxL' rt').before a0 Z = true) (wz : (Jvm.Cond.initialized y.cls).before a0 Z = true) (hy : y.cls ≠ "java/lang/invoke/MethodHandle" ∧ y.cls ≠ "java/lang/invoke/VarHandle") (hsz : ls.size = maxL) (hst : st = argsL.reverse ++ .ref a :: rest) (hlen : ∀ sig, parseMethodDescriptor y.desc = some sig → argsL.length = sig.parameters.length) (hf : rm.frames + 1 ≤ R.frames) (hW : 2 * 0 + (rest.map fun v => v.category).sum ≤ W) (hl : W + (maxL' + 11) + rm.locals ≤ R.locals) (hc : cells + rm.cells ≤ R.cells) (hs : slots + rm.slots ≤ R.slots) (hd : decode bytes pc = .ok (.invokespecial index, 3)) (hp : pc + 3 = pc')
    (kk : ∀ v h', Keep h h' ws' → Q' v h' → G p l e R s m args below meth c n0 h0 ws Q (cells + rm.cells) (slots + rm.slots) h' (mkF m pc' ls (v.toList ++ rest))) : G p l e R s m args below meth c n0 h0 ws Q cells slots h (mkF m pc ls st) := fun T locs k n X hk hn eT N K => by
  subst hp hst
  subst hrt
  obtain ⟨v, _, ⟨T', L', k', n'⟩, -, X', ⟨Lc, hQ, l1, y1, z1⟩, stp⟩ := X.specialBack B.1.1 (y := y) w0 B.1.2.2.2.1 (mvT B.1.2.2.2.2 w1) (mvT B.1.2.2.2.2 w2) (mvT B.1.2.2.2.2 wc) hy (own_back (W := W) B M wc wz hf hl) (g := (mkF m pc ls (argsL.reverse ++ .ref a :: rest))) rfl (hsz.trans B.1.2.2.1.symm) (Steps.refl _) (a := a) (argsL := argsL) (rest := rest) hlen rfl hW (hb B.1.2.1 hd) (fun _ _ => ⟨rfl, eT, Nat.le_trans (Nat.add_le_add_right hk _) hc, Nat.le_trans (Nat.add_le_add_right hn _) hs⟩)
  dsimp only [Pt.U, Pt.locs, Pt.cells, Pt.slots] at X' l1 y1 z1 stp hQ
  subst l1 y1 z1
  obtain ⟨U, v, L, hs', r⟩ := kk v T'.heap hQ.2.1 hQ.2.2 T' (locs ++ Lc) _ _ X' (Nat.add_le_add_right hk _) (Nat.add_le_add_right hn _) rfl (Fr.app N hQ.1) (K.trans hQ.2.1 hws)
  exact ⟨U, v, L, stp.trans hs', r⟩
theorem G.callV {a : Addr} {y : MethodName} {bytes' : ByteArray} {maxL' : Nat} {rt' : Option FieldType} {rm : Room} {ws' : List Addr} {Q' : Option Value → Heap → Prop} {index W : Nat} {argsL rest : List Value} (B : Cx p s m meth c Z own nm bytes maxL rt n0 h0 ws) (E : Exa Z h a y.cls) (w1 : (Jvm.Cond.methodLink own index y).before a0 Z = true) (w2 : (Jvm.Cond.declares y).before a0 Z = true) (w3 : (Jvm.Cond.selects y.cls y y).before a0 Z = true) (w4 : (Jvm.Cond.instanceMethod y).before a0 Z = true) (M : Mt l Z y bytes' maxL' rt' [] rm n0 (.ref a :: argsL).toArray h ws' Q') (hws : ∀ x ∈ ws', x ∈ ws ∨ h0.size ≤ x) (wc : (Jvm.Cond.code y bytes' maxL' rt').before a0 Z = true) (wz : (Jvm.Cond.initialized y.cls).before a0 Z = true) (hy : y.cls ≠ "java/lang/invoke/MethodHandle" ∧ y.cls ≠ "java/lang/invoke/VarHandle") (hsz : ls.size = maxL) (hst : st = argsL.reverse ++ .ref a :: rest) (hlen : ∀ sig, parseMethodDescriptor y.desc = some sig → argsL.length = sig.parameters.length) (hf : rm.frames + 1 ≤ R.frames) (hW : 2 * 0 + (rest.map fun v => v.category).sum ≤ W) (hl : W + (maxL' + 11) + rm.locals ≤ R.locals) (hc : cells + rm.cells ≤ R.cells) (hs : slots + rm.slots ≤ R.slots) (hd : decode bytes pc = .ok (.invokevirtual index, 3)) (hp : pc + 3 = pc')
    (kk : ∀ v h', Keep h h' ws' → Q' v h' → G p l e R s m args below meth c n0 h0 ws Q (cells + rm.cells) (slots + rm.slots) h' (mkF m pc' ls (v.toList ++ rest))) : G p l e R s m args below meth c n0 h0 ws Q cells slots h (mkF m pc ls st) := fun T locs k n X hk hn eT N K => by
  subst hp hst
  obtain ⟨cq, kq, qa, qb, qc⟩ := isOf B.1.2.2.2.2 eT E
  obtain ⟨v, _, ⟨T', L', k', n'⟩, -, X', ⟨Lc, hQ, l1, y1, z1⟩, stp⟩ := X.virtualBack B.1.1 (y := y) (z := y) B.1.2.2.2.1 (mvT B.1.2.2.2.2 w1) (mvT B.1.2.2.2.2 w2) (notFace_of_selects (args := #[]) (mvT B.1.2.2.2.2 w3)) (mvT B.1.2.2.2.2 w3) (mvT B.1.2.2.2.2 w4) hy (own_back (W := W) B M wc wz hf hl) qa qc (g := (mkF m pc ls (argsL.reverse ++ .ref a :: rest))) rfl (hsz.trans B.1.2.2.1.symm) (Steps.refl _) (argsL := argsL) (rest := rest) hlen rfl hW (hb B.1.2.1 hd) (fun _ _ => ⟨rfl, eT, Nat.le_trans (Nat.add_le_add_right hk _) hc, Nat.le_trans (Nat.add_le_add_right hn _) hs⟩)
  dsimp only [Pt.U, Pt.locs, Pt.cells, Pt.slots] at X' l1 y1 z1 stp hQ
  subst l1 y1 z1
  obtain ⟨U, v, L, hs', r⟩ := kk v T'.heap hQ.2.1 hQ.2.2 T' (locs ++ Lc) _ _ X' (Nat.add_le_add_right hk _) (Nat.add_le_add_right hn _) rfl (Fr.app N hQ.1) (K.trans hQ.2.1 hws)
  exact ⟨U, v, L, stp.trans hs', r⟩
theorem own_sel {args : Array Value} {s : State} {y z : MethodName} {K : String} (hz : (Jvm.Cond.selects K z z).before args s = true) (hcl : z.cls = y.cls) (hinst : (Jvm.Cond.instanceMethod y).before args s = true) (hpriv : s.PrivateAt y) (hy : y.cls ≠ "java/lang/invoke/MethodHandle" ∧ y.cls ≠ "java/lang/invoke/VarHandle") : (Jvm.Cond.selects y.cls y y).before args s = true := by
  obtain ⟨mk, meth, hnamed, hmeth, hst, hab⟩ := Cond.instanceMethod_spec hinst
  obtain ⟨c2, r2, m2, q1, q2, q3, q4, kP, hkP, hkPi⟩ := Cond.selects_spec hz
  have h1 := findClass_of_methodNamed hnamed
  have h2 := findClass_of_methodNamed q3
  rw [hcl, h1] at h2
  have h3 : mk.cls = m2.cls := Option.some.inj h2
  rw [← h3] at hkP
  have h4 := State.methodFound?_of_named hnamed hy
  have h5 := selectMethod_private (p := {}) (c := mk.cls) hmeth (hpriv mk meth hnamed hmeth)
  simp [Cond.before, Cond.holds, Cond.value, h1, h4, hnamed, h5, hkP, hkPi]
theorem G.callP {a : Addr} {z : MethodName} {K : String} {y : MethodName} {bytes' : ByteArray} {maxL' : Nat} {rt' : Option FieldType} {rm : Room} {ws' : List Addr} {Q' : Option Value → Heap → Prop} {index W : Nat} {argsL rest : List Value} (B : Cx p s m meth c Z own nm bytes maxL rt n0 h0 ws) (E : Exa Z h a y.cls) (w1 : (Jvm.Cond.methodLink own index y).before a0 Z = true) (w2 : (Jvm.Cond.privateMethod y).before a0 Z = true) (w3 : (Jvm.Cond.selects K z z).before a0 Z = true) (hcl : z.cls = y.cls) (w4 : (Jvm.Cond.instanceMethod y).before a0 Z = true) (M : Mt l Z y bytes' maxL' rt' [] rm n0 (.ref a :: argsL).toArray h ws' Q') (hws : ∀ x ∈ ws', x ∈ ws ∨ h0.size ≤ x) (wc : (Jvm.Cond.code y bytes' maxL' rt').before a0 Z = true) (wz : (Jvm.Cond.initialized y.cls).before a0 Z = true) (hy : y.cls ≠ "java/lang/invoke/MethodHandle" ∧ y.cls ≠ "java/lang/invoke/VarHandle") (hsz : ls.size = maxL) (hst : st = argsL.reverse ++ .ref a :: rest) (hlen : ∀ sig, parseMethodDescriptor y.desc = some sig → argsL.length = sig.parameters.length) (hf : rm.frames + 1 ≤ R.frames) (hW : 2 * 0 + (rest.map fun v => v.category).sum ≤ W) (hl : W + (maxL' + 11) + rm.locals ≤ R.locals) (hc : cells + rm.cells ≤ R.cells) (hs : slots + rm.slots ≤ R.slots) (hd : decode bytes pc = .ok (.invokevirtual index, 3)) (hp : pc + 3 = pc')
    (kk : ∀ v h', Keep h h' ws' → Q' v h' → G p l e R s m args below meth c n0 h0 ws Q (cells + rm.cells) (slots + rm.slots) h' (mkF m pc' ls (v.toList ++ rest))) : G p l e R s m args below meth c n0 h0 ws Q cells slots h (mkF m pc ls st) := fun T locs k n X hk hn eT N K => by
  subst hp hst
  obtain ⟨cq, q1, q2⟩ := E.cell
  obtain ⟨v, _, ⟨T', L', k', n'⟩, -, X', ⟨Lc, hQ, l1, y1, z1⟩, stp⟩ := X.privateBack B.1.1 (y := y) B.1.2.2.2.1 (mvT B.1.2.2.2.2 w1) (mvT B.1.2.2.2.2 w4) (own_sel (mvT B.1.2.2.2.2 w3) hcl (mvT B.1.2.2.2.2 w4) (Cond.privateMethod_at (mvP B.1.2.2.2.2 w2 (args := #[]))) hy) (Cond.privateMethod_at (mvP B.1.2.2.2.2 w2 (args := #[]))) (mvT B.1.2.2.2.2 wc) hy (own_back (W := W) B M wc wz hf hl) (g := (mkF m pc ls (argsL.reverse ++ .ref a :: rest))) rfl (hsz.trans B.1.2.2.1.symm) (Steps.refl _) (a := a) (by rw [eT]; exact q1) q2 (argsL := argsL) (rest := rest) hlen rfl hW (hb B.1.2.1 hd) (fun _ _ => ⟨rfl, eT, Nat.le_trans (Nat.add_le_add_right hk _) hc, Nat.le_trans (Nat.add_le_add_right hn _) hs⟩)
  dsimp only [Pt.U, Pt.locs, Pt.cells, Pt.slots] at X' l1 y1 z1 stp hQ
  subst l1 y1 z1
  obtain ⟨U, v, L, hs', r⟩ := kk v T'.heap hQ.2.1 hQ.2.2 T' (locs ++ Lc) _ _ X' (Nat.add_le_add_right hk _) (Nat.add_le_add_right hn _) rfl (Fr.app N hQ.1) (K.trans hQ.2.1 hws)
  exact ⟨U, v, L, stp.trans hs', r⟩
end OwnKit
/-- v >>> 7, k times -/
def sh (v : Int32) : Nat → Int32
  | 0 => v
  | k + 1 => ((sh v k).toUInt32 >>> ((7 : Int32) &&& 31).toUInt32).toInt32
/-- how many bytes -/
def Sz (v : Int32) (n : Nat) : Prop := (n = 1 ∧ v.toInt % 4294967296 < 128) ∨ (n = 2 ∧ 128 ≤ v.toInt % 4294967296 ∧ v.toInt % 4294967296 < 16384) ∨ (n = 3 ∧ 16384 ≤ v.toInt % 4294967296 ∧ v.toInt % 4294967296 < 2097152) ∨ (n = 4 ∧ 2097152 ≤ v.toInt % 4294967296 ∧ v.toInt % 4294967296 < 268435456) ∨ (n = 5 ∧ 268435456 ≤ v.toInt % 4294967296)
/-- the byte at k after the value is written in n bytes from 'at' on, x before -/
def wb (v : Int32) (n i : Nat) (x : Int32) (k : Nat) : Int32 := if i ≤ k ∧ k < i + n then (if k + 1 < i + n then ((sh v (k - i) &&& 127) ||| 128).toInt8.toInt32 else (sh v (k - i)).toInt8.toInt32) else x
theorem own_nb (x : Int32) : nar .byte x.toInt8.toInt32 = x.toInt8.toInt32 := by
  show x.toInt8.toInt32.toInt8.toInt32 = _
  rw [Int8.toInt8_toInt32]
theorem own_z (x : Int32) : x = 0 ↔ x.toInt = 0 := Int32.toInt_inj.symm
theorem own_st (v : Int32) (k : Nat) : (sh v (k + 1)).toInt = ((sh v k).toInt % 4294967296) / 128 := by
  have h := c_iushr (sh v k) 7 7 (by decide) (by decide)
  exact h
theorem own_s1 (v : Int32) : (sh v 1).toInt = (v.toInt % 4294967296) / 128 := own_st v 0
theorem own_s2 (v : Int32) : (sh v 2).toInt = (v.toInt % 4294967296) / 16384 := by have h : (sh v 2).toInt = _ := own_st v 1; have := own_s1 v; omega
theorem own_s3 (v : Int32) : (sh v 3).toInt = (v.toInt % 4294967296) / 2097152 := by have h : (sh v 3).toInt = _ := own_st v 2; have := own_s2 v; omega
theorem own_s4 (v : Int32) : (sh v 4).toInt = (v.toInt % 4294967296) / 268435456 := by have h : (sh v 4).toInt = _ := own_st v 3; have := own_s3 v; omega
theorem own_s5 (v : Int32) : (sh v 5).toInt = 0 := by have h : (sh v 5).toInt = _ := own_st v 4; have := own_s4 v; omega
theorem own_wb (v : Int32) (i n : Nat) (f g : Nat → Int32) (h1 : ∀ k, k < i → g k = f k) (h2 : ∀ k, i + n ≤ k → g k = f k) (h3 : ∀ m, m + 1 < n → g (i + m) = ((sh v m &&& 127) ||| 128).toInt8.toInt32) (h4 : ∀ m, m + 1 = n → g (i + m) = (sh v m).toInt8.toInt32) : ∀ k, g k = wb v n i (f k) k := by
  intro k
  unfold wb
  by_cases c : i ≤ k ∧ k < i + n
  · rw [if_pos c]
    obtain ⟨m, rfl⟩ := Nat.exists_eq_add_of_le c.1
    rw [Nat.add_sub_cancel_left]
    by_cases d : i + m + 1 < i + n
    · rw [if_pos d]; exact h3 m (by omega)
    · rw [if_neg d]; exact h4 m (by omega)
  · rw [if_neg c]
    rcases Nat.lt_or_ge k i with q | q
    · exact h1 k q
    · exact h2 k (by omega)
theorem d1_0 : decode prog_44_method_3_code 0 = .ok (.iload_n 2, 1) := by decide +kernel
theorem d1_1 : decode prog_44_method_3_code 1 = .ok (.istore_n 3, 1) := by decide +kernel
theorem d1_2 : decode prog_44_method_3_code 2 = .ok (.iload_n 3, 1) := by decide +kernel
theorem d1_3 : decode prog_44_method_3_code 3 = .ok (.bipush 7, 2) := by decide +kernel
theorem d1_5 : decode prog_44_method_3_code 5 = .ok (.iushr, 1) := by decide +kernel
theorem d1_6 : decode prog_44_method_3_code 6 = .ok (.ifCond .eq 26, 3) := by decide +kernel
theorem d1_9 : decode prog_44_method_3_code 9 = .ok (.aload_n 0, 1) := by decide +kernel
theorem d1_10 : decode prog_44_method_3_code 10 = .ok (.iload_n 1, 1) := by decide +kernel
theorem d1_11 : decode prog_44_method_3_code 11 = .ok (.iinc 1 1, 3) := by decide +kernel
theorem d1_14 : decode prog_44_method_3_code 14 = .ok (.iload_n 3, 1) := by decide +kernel
theorem d1_15 : decode prog_44_method_3_code 15 = .ok (.bipush 127, 2) := by decide +kernel
theorem d1_17 : decode prog_44_method_3_code 17 = .ok (.iand, 1) := by decide +kernel
theorem d1_18 : decode prog_44_method_3_code 18 = .ok (.sipush 128, 3) := by decide +kernel
theorem d1_21 : decode prog_44_method_3_code 21 = .ok (.ior, 1) := by decide +kernel
theorem d1_22 : decode prog_44_method_3_code 22 = .ok (.i2b, 1) := by decide +kernel
theorem d1_23 : decode prog_44_method_3_code 23 = .ok (.bastore, 1) := by decide +kernel
theorem d1_24 : decode prog_44_method_3_code 24 = .ok (.iload_n 3, 1) := by decide +kernel
theorem d1_25 : decode prog_44_method_3_code 25 = .ok (.bipush 7, 2) := by decide +kernel
theorem d1_27 : decode prog_44_method_3_code 27 = .ok (.iushr, 1) := by decide +kernel
theorem d1_28 : decode prog_44_method_3_code 28 = .ok (.istore_n 3, 1) := by decide +kernel
theorem d1_29 : decode prog_44_method_3_code 29 = .ok (.goto (-27), 3) := by decide +kernel
theorem d1_32 : decode prog_44_method_3_code 32 = .ok (.aload_n 0, 1) := by decide +kernel
theorem d1_33 : decode prog_44_method_3_code 33 = .ok (.iload_n 1, 1) := by decide +kernel
theorem d1_34 : decode prog_44_method_3_code 34 = .ok (.iinc 1 1, 3) := by decide +kernel
theorem d1_37 : decode prog_44_method_3_code 37 = .ok (.iload_n 3, 1) := by decide +kernel
theorem d1_38 : decode prog_44_method_3_code 38 = .ok (.i2b, 1) := by decide +kernel
theorem d1_39 : decode prog_44_method_3_code 39 = .ok (.bastore, 1) := by decide +kernel
theorem d1_40 : decode prog_44_method_3_code 40 = .ok (.iload_n 1, 1) := by decide +kernel
theorem d1_41 : decode prog_44_method_3_code 41 = .ok (.ireturn, 1) := by decide +kernel
theorem pn_1 : plainFor (⟨"com/example/tacit/tacit/engine/Varints", "write", "([BII)I"⟩ : MethodName) = true := plainFor_of_name (by first | (simp [plainName, overriddenIn]; done) | decide +kernel)
theorem ef_1 (m : MethodId) (r0 : Addr) (p1 : Int32) (p2 : Int32) : entryFrame m #[(.ref r0), (.int p1), (.int p2)] 4 = mkF m 0 #[.val (.ref r0), .val (.int p1), .val (.int p2), .unset] [] := by first | (simp [entryFrame, mkF, argsToLocals, Value.category]; done) | rfl
def Qq1 (Z : State) (r0 : Addr) (p1 : Int32) (p2 : Int32) (i : Nat) (f : Nat → Int32) (h0 : Heap) : Int32 → Heap → Prop := fun z h' => ∃ (g : Nat → Int32) (nn : Nat), ArI Z h' r0 .byte 10 g ∧ Sz p2 nn ∧ z.toInt = ((i + nn : Nat) : Int) ∧ ∀ k, g k = wb p2 nn i (f k) k
abbrev Gg1 (p : Program) (l : Launch) (e : Env) (s : State) (m : MethodId) (below : List Frame) (meth : Method) (c : Code) (n0 : Nat) (h0 : Heap) (Z : State) (r0 : Addr) (p1 : Int32) (p2 : Int32) (i : Nat) (f : Nat → Int32) (cc ss : Nat) (hh : Heap) (gg : JFrame) : Prop := G p l e ({ frames := 0, cells := 0, slots := 0, locals := 0 } : Room) s m #[(.ref r0), (.int p1), (.int p2)] below meth c n0 h0 [r0] (RI (Qq1 Z r0 p1 p2 i f h0)) cc ss hh gg
set_option maxRecDepth 65536 in
set_option maxHeartbeats 40000000 in
theorem rm1 (l : Launch) (Z : State) (a0 : Array Value) (hw : ∀ d ∈ tables_1, d.before a0 Z = true) (r0 : Addr) (p1 : Int32) (p2 : Int32) (i : Nat) (f : Nat → Int32) (h0 : Heap) (n0 : Nat) (hn : n0 ≤ h0.size) (A : ArI Z h0 r0 .byte 10 f) (hi : p1.toInt = (i : Int)) (hi3 : i ≤ 3) (hr : n0 ≤ r0) :
    Mt l Z (⟨"com/example/tacit/tacit/engine/Varints", "write", "([BII)I"⟩ : MethodName) prog_44_method_3_code 4 (some .int) [] ({ frames := 0, cells := 0, slots := 0, locals := 0 } : Room) n0 #[(.ref r0), (.int p1), (.int p2)] h0 [r0] (RI (Qq1 Z r0 p1 p2 i f h0)) := by
  refine Mt.intro pn_1 hn (allS hr all0) ?_
  have hz : h0.size ≤ h0.size := Nat.le_refl _
  intro p e s m below meth c B
  refine G.entry (ef_1 m r0 p1 p2) ?_
  show Gg1 p l e s m below meth c n0 h0 Z r0 p1 p2 i f 0 0 h0 (mkF m 0 #[.val (.ref r0), .val (.int p1), .val (.int p2), .unset] [])
  have ha0 : p1.toInt = ((i + 0 : Nat) : Int) := hi
  have s1 := own_s1 p2
  have s2 := own_s2 p2
  have s3 := own_s3 p2
  have s4 := own_s4 p2
  have s5 := own_s5 p2
  refine G.iloadN B d1_0 (v := p2) rfl (pc' := 1) rfl ?_
  refine G.istoreN B d1_1 (ls' := #[.val (.ref r0), .val (.int p1), .val (.int p2), .val (.int p2)]) rfl (pc' := 2) rfl ?_
  show Gg1 p l e s m below meth c n0 h0 Z r0 p1 p2 i f 0 0 h0 (mkF m 2 #[.val (.ref r0), .val (.int p1), .val (.int p2), .val (.int (sh p2 0))] [])
  refine G.iloadN B d1_2 (v := (sh p2 0)) rfl (pc' := 3) rfl ?_
  refine G.bipush B d1_3 (z := (7 : Int32)) rfl (pc' := 5) rfl ?_
  refine G.iushr B d1_5 (pc' := 6) rfl ?_
  refine G.if_eq B d1_6 (by decide) (pcT := 32) (by decide) (pc' := 9) rfl (fun (hd0 : (((sh p2 0).toUInt32 >>> ((7 : Int32) &&& 31).toUInt32).toInt32) = 0) => ?_) (fun (hd0 : (((sh p2 0).toUInt32 >>> ((7 : Int32) &&& 31).toUInt32).toInt32) ≠ 0) => ?_)
  · replace hd0 : (sh p2 1).toInt = 0 := (own_z _).mp hd0
    refine G.aloadN B d1_32 (v := (.ref r0)) rfl rfl (pc' := 33) rfl ?_
    refine G.iloadN B d1_33 (v := p1) rfl (pc' := 34) rfl ?_
    refine G.iinc B d1_34 (x := p1) rfl (z := (p1 + (1 : Int32))) rfl (ls' := #[.val (.ref r0), .val (.int (p1 + (1 : Int32))), .val (.int p2), .val (.int (sh p2 0))]) rfl (pc' := 37) rfl ?_
    refine G.iloadN B d1_37 (v := (sh p2 0)) rfl (pc' := 38) rfl ?_
    refine G.i2b B d1_38 (pc' := 39) rfl ?_
    refine G.stB B A (i := (i + 0)) ha0 (by omega) (Or.inl (List.mem_of_getElem? (i := 0) rfl)) (z := ((sh p2 0).toInt8.toInt32)) (own_nb _) d1_39 (pc' := 40) rfl (fun h1 K1 A1 => ?_)
    replace A := A1
    replace hn := Nat.le_trans hn K1.1
    replace hz := Nat.le_trans hz K1.1
    refine G.iloadN B d1_40 (v := (p1 + (1 : Int32))) rfl (pc' := 41) rfl ?_
    have hz1 : ((p1 + (1 : Int32))).toInt = ((i + 1 : Nat) : Int) := by
      have h1 := c_iadd p1 (1 : Int32)
      have h2 : (1 : Int32).toInt = 1 := by decide
      have h3 := rng32 ((p1 + (1 : Int32)))
      omega
    have hq : ∀ k, (up f (i + 0) ((sh p2 0).toInt8.toInt32)) k = wb p2 1 i (f k) k := by
      apply own_wb
      · intro k hk; simp only [up]; repeat rw [if_neg (by omega)]
      · intro k hk; simp only [up]; repeat rw [if_neg (by omega)]
      · intro m hm
        omega
      · intro m hm
        obtain rfl : m = 0 := by omega
        simp [up]
    exact G.retI B d1_41 (by decide) (by decide) ⟨_, 1, A, Or.inl ⟨rfl, by omega⟩, hz1, hq⟩
  · replace hd0 : (sh p2 1).toInt ≠ 0 := fun q => hd0 ((own_z _).mpr q)
    refine G.aloadN B d1_9 (v := (.ref r0)) rfl rfl (pc' := 10) rfl ?_
    refine G.iloadN B d1_10 (v := p1) rfl (pc' := 11) rfl ?_
    refine G.iinc B d1_11 (x := p1) rfl (z := (p1 + (1 : Int32))) rfl (ls' := #[.val (.ref r0), .val (.int (p1 + (1 : Int32))), .val (.int p2), .val (.int (sh p2 0))]) rfl (pc' := 14) rfl ?_
    refine G.iloadN B d1_14 (v := (sh p2 0)) rfl (pc' := 15) rfl ?_
    refine G.bipush B d1_15 (z := (127 : Int32)) rfl (pc' := 17) rfl ?_
    refine G.iand B d1_17 (pc' := 18) rfl ?_
    refine G.sipush B d1_18 (z := (128 : Int32)) rfl (pc' := 21) rfl ?_
    refine G.ior B d1_21 (pc' := 22) rfl ?_
    refine G.i2b B d1_22 (pc' := 23) rfl ?_
    refine G.stB B A (i := (i + 0)) ha0 (by omega) (Or.inl (List.mem_of_getElem? (i := 0) rfl)) (z := (((sh p2 0 &&& 127) ||| 128).toInt8.toInt32)) (own_nb _) d1_23 (pc' := 24) rfl (fun h2 K2 A2 => ?_)
    replace A := A2
    replace hn := Nat.le_trans hn K2.1
    replace hz := Nat.le_trans hz K2.1
    refine G.iloadN B d1_24 (v := (sh p2 0)) rfl (pc' := 25) rfl ?_
    refine G.bipush B d1_25 (z := (7 : Int32)) rfl (pc' := 27) rfl ?_
    refine G.iushr B d1_27 (pc' := 28) rfl ?_
    refine G.istoreN B d1_28 (ls' := #[.val (.ref r0), .val (.int (p1 + (1 : Int32))), .val (.int p2), .val (.int (((sh p2 0).toUInt32 >>> ((7 : Int32) &&& 31).toUInt32).toInt32))]) rfl (pc' := 29) rfl ?_
    refine G.goto B d1_29 (by decide) (pc' := 2) (by decide) ?_
    obtain ⟨at1, e_at1⟩ : ∃ z, z = (p1 + (1 : Int32)) := ⟨_, rfl⟩
    rw [← e_at1]
    show Gg1 p l e s m below meth c n0 h0 Z r0 p1 p2 i f 0 0 h2 (mkF m 2 #[.val (.ref r0), .val (.int at1), .val (.int p2), .val (.int (sh p2 1))] [])
    have ha1 : at1.toInt = ((i + 1 : Nat) : Int) := by
      have h1 := c_iadd p1 (1 : Int32)
      have h2 : (1 : Int32).toInt = 1 := by decide
      have h3 := rng32 (p1 + (1 : Int32))
      rw [e_at1]
      omega
    refine G.iloadN B d1_2 (v := (sh p2 1)) rfl (pc' := 3) rfl ?_
    refine G.bipush B d1_3 (z := (7 : Int32)) rfl (pc' := 5) rfl ?_
    refine G.iushr B d1_5 (pc' := 6) rfl ?_
    refine G.if_eq B d1_6 (by decide) (pcT := 32) (by decide) (pc' := 9) rfl (fun (hd1 : (((sh p2 1).toUInt32 >>> ((7 : Int32) &&& 31).toUInt32).toInt32) = 0) => ?_) (fun (hd1 : (((sh p2 1).toUInt32 >>> ((7 : Int32) &&& 31).toUInt32).toInt32) ≠ 0) => ?_)
    · replace hd1 : (sh p2 2).toInt = 0 := (own_z _).mp hd1
      refine G.aloadN B d1_32 (v := (.ref r0)) rfl rfl (pc' := 33) rfl ?_
      refine G.iloadN B d1_33 (v := at1) rfl (pc' := 34) rfl ?_
      refine G.iinc B d1_34 (x := at1) rfl (z := (at1 + (1 : Int32))) rfl (ls' := #[.val (.ref r0), .val (.int (at1 + (1 : Int32))), .val (.int p2), .val (.int (sh p2 1))]) rfl (pc' := 37) rfl ?_
      refine G.iloadN B d1_37 (v := (sh p2 1)) rfl (pc' := 38) rfl ?_
      refine G.i2b B d1_38 (pc' := 39) rfl ?_
      refine G.stB B A (i := (i + 1)) ha1 (by omega) (Or.inl (List.mem_of_getElem? (i := 0) rfl)) (z := ((sh p2 1).toInt8.toInt32)) (own_nb _) d1_39 (pc' := 40) rfl (fun h3 K3 A3 => ?_)
      replace A := A3
      replace hn := Nat.le_trans hn K3.1
      replace hz := Nat.le_trans hz K3.1
      refine G.iloadN B d1_40 (v := (at1 + (1 : Int32))) rfl (pc' := 41) rfl ?_
      have hz1 : ((at1 + (1 : Int32))).toInt = ((i + 2 : Nat) : Int) := by
        have h1 := c_iadd at1 (1 : Int32)
        have h2 : (1 : Int32).toInt = 1 := by decide
        have h3 := rng32 ((at1 + (1 : Int32)))
        omega
      have hq : ∀ k, (up (up f (i + 0) (((sh p2 0 &&& 127) ||| 128).toInt8.toInt32)) (i + 1) ((sh p2 1).toInt8.toInt32)) k = wb p2 2 i (f k) k := by
        apply own_wb
        · intro k hk; simp only [up]; repeat rw [if_neg (by omega)]
        · intro k hk; simp only [up]; repeat rw [if_neg (by omega)]
        · intro m hm
          have hm' : m = 0 := by omega
          rcases hm' with rfl <;> simp [up]
        · intro m hm
          obtain rfl : m = 1 := by omega
          simp [up]
      exact G.retI B d1_41 (by decide) (by decide) ⟨_, 2, A, Or.inr (Or.inl ⟨rfl, by omega, by omega⟩), hz1, hq⟩
    · replace hd1 : (sh p2 2).toInt ≠ 0 := fun q => hd1 ((own_z _).mpr q)
      refine G.aloadN B d1_9 (v := (.ref r0)) rfl rfl (pc' := 10) rfl ?_
      refine G.iloadN B d1_10 (v := at1) rfl (pc' := 11) rfl ?_
      refine G.iinc B d1_11 (x := at1) rfl (z := (at1 + (1 : Int32))) rfl (ls' := #[.val (.ref r0), .val (.int (at1 + (1 : Int32))), .val (.int p2), .val (.int (sh p2 1))]) rfl (pc' := 14) rfl ?_
      refine G.iloadN B d1_14 (v := (sh p2 1)) rfl (pc' := 15) rfl ?_
      refine G.bipush B d1_15 (z := (127 : Int32)) rfl (pc' := 17) rfl ?_
      refine G.iand B d1_17 (pc' := 18) rfl ?_
      refine G.sipush B d1_18 (z := (128 : Int32)) rfl (pc' := 21) rfl ?_
      refine G.ior B d1_21 (pc' := 22) rfl ?_
      refine G.i2b B d1_22 (pc' := 23) rfl ?_
      refine G.stB B A (i := (i + 1)) ha1 (by omega) (Or.inl (List.mem_of_getElem? (i := 0) rfl)) (z := (((sh p2 1 &&& 127) ||| 128).toInt8.toInt32)) (own_nb _) d1_23 (pc' := 24) rfl (fun h4 K4 A4 => ?_)
      replace A := A4
      replace hn := Nat.le_trans hn K4.1
      replace hz := Nat.le_trans hz K4.1
      refine G.iloadN B d1_24 (v := (sh p2 1)) rfl (pc' := 25) rfl ?_
      refine G.bipush B d1_25 (z := (7 : Int32)) rfl (pc' := 27) rfl ?_
      refine G.iushr B d1_27 (pc' := 28) rfl ?_
      refine G.istoreN B d1_28 (ls' := #[.val (.ref r0), .val (.int (at1 + (1 : Int32))), .val (.int p2), .val (.int (((sh p2 1).toUInt32 >>> ((7 : Int32) &&& 31).toUInt32).toInt32))]) rfl (pc' := 29) rfl ?_
      refine G.goto B d1_29 (by decide) (pc' := 2) (by decide) ?_
      obtain ⟨at2, e_at2⟩ : ∃ z, z = (at1 + (1 : Int32)) := ⟨_, rfl⟩
      rw [← e_at2]
      show Gg1 p l e s m below meth c n0 h0 Z r0 p1 p2 i f 0 0 h4 (mkF m 2 #[.val (.ref r0), .val (.int at2), .val (.int p2), .val (.int (sh p2 2))] [])
      have ha2 : at2.toInt = ((i + 2 : Nat) : Int) := by
        have h1 := c_iadd at1 (1 : Int32)
        have h2 : (1 : Int32).toInt = 1 := by decide
        have h3 := rng32 (at1 + (1 : Int32))
        rw [e_at2]
        omega
      refine G.iloadN B d1_2 (v := (sh p2 2)) rfl (pc' := 3) rfl ?_
      refine G.bipush B d1_3 (z := (7 : Int32)) rfl (pc' := 5) rfl ?_
      refine G.iushr B d1_5 (pc' := 6) rfl ?_
      refine G.if_eq B d1_6 (by decide) (pcT := 32) (by decide) (pc' := 9) rfl (fun (hd2 : (((sh p2 2).toUInt32 >>> ((7 : Int32) &&& 31).toUInt32).toInt32) = 0) => ?_) (fun (hd2 : (((sh p2 2).toUInt32 >>> ((7 : Int32) &&& 31).toUInt32).toInt32) ≠ 0) => ?_)
      · replace hd2 : (sh p2 3).toInt = 0 := (own_z _).mp hd2
        refine G.aloadN B d1_32 (v := (.ref r0)) rfl rfl (pc' := 33) rfl ?_
        refine G.iloadN B d1_33 (v := at2) rfl (pc' := 34) rfl ?_
        refine G.iinc B d1_34 (x := at2) rfl (z := (at2 + (1 : Int32))) rfl (ls' := #[.val (.ref r0), .val (.int (at2 + (1 : Int32))), .val (.int p2), .val (.int (sh p2 2))]) rfl (pc' := 37) rfl ?_
        refine G.iloadN B d1_37 (v := (sh p2 2)) rfl (pc' := 38) rfl ?_
        refine G.i2b B d1_38 (pc' := 39) rfl ?_
        refine G.stB B A (i := (i + 2)) ha2 (by omega) (Or.inl (List.mem_of_getElem? (i := 0) rfl)) (z := ((sh p2 2).toInt8.toInt32)) (own_nb _) d1_39 (pc' := 40) rfl (fun h5 K5 A5 => ?_)
        replace A := A5
        replace hn := Nat.le_trans hn K5.1
        replace hz := Nat.le_trans hz K5.1
        refine G.iloadN B d1_40 (v := (at2 + (1 : Int32))) rfl (pc' := 41) rfl ?_
        have hz1 : ((at2 + (1 : Int32))).toInt = ((i + 3 : Nat) : Int) := by
          have h1 := c_iadd at2 (1 : Int32)
          have h2 : (1 : Int32).toInt = 1 := by decide
          have h3 := rng32 ((at2 + (1 : Int32)))
          omega
        have hq : ∀ k, (up (up (up f (i + 0) (((sh p2 0 &&& 127) ||| 128).toInt8.toInt32)) (i + 1) (((sh p2 1 &&& 127) ||| 128).toInt8.toInt32)) (i + 2) ((sh p2 2).toInt8.toInt32)) k = wb p2 3 i (f k) k := by
          apply own_wb
          · intro k hk; simp only [up]; repeat rw [if_neg (by omega)]
          · intro k hk; simp only [up]; repeat rw [if_neg (by omega)]
          · intro m hm
            have hm' : m = 0 ∨ m = 1 := by omega
            rcases hm' with rfl | rfl <;> simp [up]
          · intro m hm
            obtain rfl : m = 2 := by omega
            simp [up]
        exact G.retI B d1_41 (by decide) (by decide) ⟨_, 3, A, Or.inr (Or.inr (Or.inl ⟨rfl, by omega, by omega⟩)), hz1, hq⟩
      · replace hd2 : (sh p2 3).toInt ≠ 0 := fun q => hd2 ((own_z _).mpr q)
        refine G.aloadN B d1_9 (v := (.ref r0)) rfl rfl (pc' := 10) rfl ?_
        refine G.iloadN B d1_10 (v := at2) rfl (pc' := 11) rfl ?_
        refine G.iinc B d1_11 (x := at2) rfl (z := (at2 + (1 : Int32))) rfl (ls' := #[.val (.ref r0), .val (.int (at2 + (1 : Int32))), .val (.int p2), .val (.int (sh p2 2))]) rfl (pc' := 14) rfl ?_
        refine G.iloadN B d1_14 (v := (sh p2 2)) rfl (pc' := 15) rfl ?_
        refine G.bipush B d1_15 (z := (127 : Int32)) rfl (pc' := 17) rfl ?_
        refine G.iand B d1_17 (pc' := 18) rfl ?_
        refine G.sipush B d1_18 (z := (128 : Int32)) rfl (pc' := 21) rfl ?_
        refine G.ior B d1_21 (pc' := 22) rfl ?_
        refine G.i2b B d1_22 (pc' := 23) rfl ?_
        refine G.stB B A (i := (i + 2)) ha2 (by omega) (Or.inl (List.mem_of_getElem? (i := 0) rfl)) (z := (((sh p2 2 &&& 127) ||| 128).toInt8.toInt32)) (own_nb _) d1_23 (pc' := 24) rfl (fun h6 K6 A6 => ?_)
        replace A := A6
        replace hn := Nat.le_trans hn K6.1
        replace hz := Nat.le_trans hz K6.1
        refine G.iloadN B d1_24 (v := (sh p2 2)) rfl (pc' := 25) rfl ?_
        refine G.bipush B d1_25 (z := (7 : Int32)) rfl (pc' := 27) rfl ?_
        refine G.iushr B d1_27 (pc' := 28) rfl ?_
        refine G.istoreN B d1_28 (ls' := #[.val (.ref r0), .val (.int (at2 + (1 : Int32))), .val (.int p2), .val (.int (((sh p2 2).toUInt32 >>> ((7 : Int32) &&& 31).toUInt32).toInt32))]) rfl (pc' := 29) rfl ?_
        refine G.goto B d1_29 (by decide) (pc' := 2) (by decide) ?_
        obtain ⟨at3, e_at3⟩ : ∃ z, z = (at2 + (1 : Int32)) := ⟨_, rfl⟩
        rw [← e_at3]
        show Gg1 p l e s m below meth c n0 h0 Z r0 p1 p2 i f 0 0 h6 (mkF m 2 #[.val (.ref r0), .val (.int at3), .val (.int p2), .val (.int (sh p2 3))] [])
        have ha3 : at3.toInt = ((i + 3 : Nat) : Int) := by
          have h1 := c_iadd at2 (1 : Int32)
          have h2 : (1 : Int32).toInt = 1 := by decide
          have h3 := rng32 (at2 + (1 : Int32))
          rw [e_at3]
          omega
        refine G.iloadN B d1_2 (v := (sh p2 3)) rfl (pc' := 3) rfl ?_
        refine G.bipush B d1_3 (z := (7 : Int32)) rfl (pc' := 5) rfl ?_
        refine G.iushr B d1_5 (pc' := 6) rfl ?_
        refine G.if_eq B d1_6 (by decide) (pcT := 32) (by decide) (pc' := 9) rfl (fun (hd3 : (((sh p2 3).toUInt32 >>> ((7 : Int32) &&& 31).toUInt32).toInt32) = 0) => ?_) (fun (hd3 : (((sh p2 3).toUInt32 >>> ((7 : Int32) &&& 31).toUInt32).toInt32) ≠ 0) => ?_)
        · replace hd3 : (sh p2 4).toInt = 0 := (own_z _).mp hd3
          refine G.aloadN B d1_32 (v := (.ref r0)) rfl rfl (pc' := 33) rfl ?_
          refine G.iloadN B d1_33 (v := at3) rfl (pc' := 34) rfl ?_
          refine G.iinc B d1_34 (x := at3) rfl (z := (at3 + (1 : Int32))) rfl (ls' := #[.val (.ref r0), .val (.int (at3 + (1 : Int32))), .val (.int p2), .val (.int (sh p2 3))]) rfl (pc' := 37) rfl ?_
          refine G.iloadN B d1_37 (v := (sh p2 3)) rfl (pc' := 38) rfl ?_
          refine G.i2b B d1_38 (pc' := 39) rfl ?_
          refine G.stB B A (i := (i + 3)) ha3 (by omega) (Or.inl (List.mem_of_getElem? (i := 0) rfl)) (z := ((sh p2 3).toInt8.toInt32)) (own_nb _) d1_39 (pc' := 40) rfl (fun h7 K7 A7 => ?_)
          replace A := A7
          replace hn := Nat.le_trans hn K7.1
          replace hz := Nat.le_trans hz K7.1
          refine G.iloadN B d1_40 (v := (at3 + (1 : Int32))) rfl (pc' := 41) rfl ?_
          have hz1 : ((at3 + (1 : Int32))).toInt = ((i + 4 : Nat) : Int) := by
            have h1 := c_iadd at3 (1 : Int32)
            have h2 : (1 : Int32).toInt = 1 := by decide
            have h3 := rng32 ((at3 + (1 : Int32)))
            omega
          have hq : ∀ k, (up (up (up (up f (i + 0) (((sh p2 0 &&& 127) ||| 128).toInt8.toInt32)) (i + 1) (((sh p2 1 &&& 127) ||| 128).toInt8.toInt32)) (i + 2) (((sh p2 2 &&& 127) ||| 128).toInt8.toInt32)) (i + 3) ((sh p2 3).toInt8.toInt32)) k = wb p2 4 i (f k) k := by
            apply own_wb
            · intro k hk; simp only [up]; repeat rw [if_neg (by omega)]
            · intro k hk; simp only [up]; repeat rw [if_neg (by omega)]
            · intro m hm
              have hm' : m = 0 ∨ m = 1 ∨ m = 2 := by omega
              rcases hm' with rfl | rfl | rfl <;> simp [up]
            · intro m hm
              obtain rfl : m = 3 := by omega
              simp [up]
          exact G.retI B d1_41 (by decide) (by decide) ⟨_, 4, A, Or.inr (Or.inr (Or.inr (Or.inl ⟨rfl, by omega, by omega⟩))), hz1, hq⟩
        · replace hd3 : (sh p2 4).toInt ≠ 0 := fun q => hd3 ((own_z _).mpr q)
          refine G.aloadN B d1_9 (v := (.ref r0)) rfl rfl (pc' := 10) rfl ?_
          refine G.iloadN B d1_10 (v := at3) rfl (pc' := 11) rfl ?_
          refine G.iinc B d1_11 (x := at3) rfl (z := (at3 + (1 : Int32))) rfl (ls' := #[.val (.ref r0), .val (.int (at3 + (1 : Int32))), .val (.int p2), .val (.int (sh p2 3))]) rfl (pc' := 14) rfl ?_
          refine G.iloadN B d1_14 (v := (sh p2 3)) rfl (pc' := 15) rfl ?_
          refine G.bipush B d1_15 (z := (127 : Int32)) rfl (pc' := 17) rfl ?_
          refine G.iand B d1_17 (pc' := 18) rfl ?_
          refine G.sipush B d1_18 (z := (128 : Int32)) rfl (pc' := 21) rfl ?_
          refine G.ior B d1_21 (pc' := 22) rfl ?_
          refine G.i2b B d1_22 (pc' := 23) rfl ?_
          refine G.stB B A (i := (i + 3)) ha3 (by omega) (Or.inl (List.mem_of_getElem? (i := 0) rfl)) (z := (((sh p2 3 &&& 127) ||| 128).toInt8.toInt32)) (own_nb _) d1_23 (pc' := 24) rfl (fun h8 K8 A8 => ?_)
          replace A := A8
          replace hn := Nat.le_trans hn K8.1
          replace hz := Nat.le_trans hz K8.1
          refine G.iloadN B d1_24 (v := (sh p2 3)) rfl (pc' := 25) rfl ?_
          refine G.bipush B d1_25 (z := (7 : Int32)) rfl (pc' := 27) rfl ?_
          refine G.iushr B d1_27 (pc' := 28) rfl ?_
          refine G.istoreN B d1_28 (ls' := #[.val (.ref r0), .val (.int (at3 + (1 : Int32))), .val (.int p2), .val (.int (((sh p2 3).toUInt32 >>> ((7 : Int32) &&& 31).toUInt32).toInt32))]) rfl (pc' := 29) rfl ?_
          refine G.goto B d1_29 (by decide) (pc' := 2) (by decide) ?_
          obtain ⟨at4, e_at4⟩ : ∃ z, z = (at3 + (1 : Int32)) := ⟨_, rfl⟩
          rw [← e_at4]
          show Gg1 p l e s m below meth c n0 h0 Z r0 p1 p2 i f 0 0 h8 (mkF m 2 #[.val (.ref r0), .val (.int at4), .val (.int p2), .val (.int (sh p2 4))] [])
          have ha4 : at4.toInt = ((i + 4 : Nat) : Int) := by
            have h1 := c_iadd at3 (1 : Int32)
            have h2 : (1 : Int32).toInt = 1 := by decide
            have h3 := rng32 (at3 + (1 : Int32))
            rw [e_at4]
            omega
          refine G.iloadN B d1_2 (v := (sh p2 4)) rfl (pc' := 3) rfl ?_
          refine G.bipush B d1_3 (z := (7 : Int32)) rfl (pc' := 5) rfl ?_
          refine G.iushr B d1_5 (pc' := 6) rfl ?_
          have hd4 : (((sh p2 4).toUInt32 >>> ((7 : Int32) &&& 31).toUInt32).toInt32) = 0 := by rw [own_z]; exact s5
          refine G.if_eq B d1_6 (by decide) (pcT := 32) (by decide) (pc' := 9) rfl (fun _ => ?_) (fun q => absurd hd4 q)
          refine G.aloadN B d1_32 (v := (.ref r0)) rfl rfl (pc' := 33) rfl ?_
          refine G.iloadN B d1_33 (v := at4) rfl (pc' := 34) rfl ?_
          refine G.iinc B d1_34 (x := at4) rfl (z := (at4 + (1 : Int32))) rfl (ls' := #[.val (.ref r0), .val (.int (at4 + (1 : Int32))), .val (.int p2), .val (.int (sh p2 4))]) rfl (pc' := 37) rfl ?_
          refine G.iloadN B d1_37 (v := (sh p2 4)) rfl (pc' := 38) rfl ?_
          refine G.i2b B d1_38 (pc' := 39) rfl ?_
          refine G.stB B A (i := (i + 4)) ha4 (by omega) (Or.inl (List.mem_of_getElem? (i := 0) rfl)) (z := ((sh p2 4).toInt8.toInt32)) (own_nb _) d1_39 (pc' := 40) rfl (fun h9 K9 A9 => ?_)
          replace A := A9
          replace hn := Nat.le_trans hn K9.1
          replace hz := Nat.le_trans hz K9.1
          refine G.iloadN B d1_40 (v := (at4 + (1 : Int32))) rfl (pc' := 41) rfl ?_
          have hz1 : ((at4 + (1 : Int32))).toInt = ((i + 5 : Nat) : Int) := by
            have h1 := c_iadd at4 (1 : Int32)
            have h2 : (1 : Int32).toInt = 1 := by decide
            have h3 := rng32 ((at4 + (1 : Int32)))
            omega
          have hq : ∀ k, (up (up (up (up (up f (i + 0) (((sh p2 0 &&& 127) ||| 128).toInt8.toInt32)) (i + 1) (((sh p2 1 &&& 127) ||| 128).toInt8.toInt32)) (i + 2) (((sh p2 2 &&& 127) ||| 128).toInt8.toInt32)) (i + 3) (((sh p2 3 &&& 127) ||| 128).toInt8.toInt32)) (i + 4) ((sh p2 4).toInt8.toInt32)) k = wb p2 5 i (f k) k := by
            apply own_wb
            · intro k hk; simp only [up]; repeat rw [if_neg (by omega)]
            · intro k hk; simp only [up]; repeat rw [if_neg (by omega)]
            · intro m hm
              have hm' : m = 0 ∨ m = 1 ∨ m = 2 ∨ m = 3 := by omega
              rcases hm' with rfl | rfl | rfl | rfl <;> simp [up]
            · intro m hm
              obtain rfl : m = 4 := by omega
              simp [up]
          exact G.retI B d1_41 (by decide) (by decide) ⟨_, 5, A, Or.inr (Or.inr (Or.inr (Or.inr ⟨rfl, by omega⟩))), hz1, hq⟩
theorem d2_0 : decode method_3_code 0 = .ok (.iload_n 0, 1) := by decide +kernel
theorem d2_1 : decode method_3_code 1 = .ok (.bipush 7, 2) := by decide +kernel
theorem d2_3 : decode method_3_code 3 = .ok (.iushr, 1) := by decide +kernel
theorem d2_4 : decode method_3_code 4 = .ok (.ifCond .ne 5, 3) := by decide +kernel
theorem d2_7 : decode method_3_code 7 = .ok (.iconst 1, 1) := by decide +kernel
theorem d2_8 : decode method_3_code 8 = .ok (.ireturn, 1) := by decide +kernel
theorem d2_9 : decode method_3_code 9 = .ok (.iload_n 0, 1) := by decide +kernel
theorem d2_10 : decode method_3_code 10 = .ok (.bipush 14, 2) := by decide +kernel
theorem d2_12 : decode method_3_code 12 = .ok (.iushr, 1) := by decide +kernel
theorem d2_13 : decode method_3_code 13 = .ok (.ifCond .ne 5, 3) := by decide +kernel
theorem d2_16 : decode method_3_code 16 = .ok (.iconst 2, 1) := by decide +kernel
theorem d2_17 : decode method_3_code 17 = .ok (.ireturn, 1) := by decide +kernel
theorem d2_18 : decode method_3_code 18 = .ok (.iload_n 0, 1) := by decide +kernel
theorem d2_19 : decode method_3_code 19 = .ok (.bipush 21, 2) := by decide +kernel
theorem d2_21 : decode method_3_code 21 = .ok (.iushr, 1) := by decide +kernel
theorem d2_22 : decode method_3_code 22 = .ok (.ifCond .ne 5, 3) := by decide +kernel
theorem d2_25 : decode method_3_code 25 = .ok (.iconst 3, 1) := by decide +kernel
theorem d2_26 : decode method_3_code 26 = .ok (.ireturn, 1) := by decide +kernel
theorem d2_27 : decode method_3_code 27 = .ok (.iload_n 0, 1) := by decide +kernel
theorem d2_28 : decode method_3_code 28 = .ok (.bipush 28, 2) := by decide +kernel
theorem d2_30 : decode method_3_code 30 = .ok (.iushr, 1) := by decide +kernel
theorem d2_31 : decode method_3_code 31 = .ok (.ifCond .ne 5, 3) := by decide +kernel
theorem d2_34 : decode method_3_code 34 = .ok (.iconst 4, 1) := by decide +kernel
theorem d2_35 : decode method_3_code 35 = .ok (.ireturn, 1) := by decide +kernel
theorem d2_36 : decode method_3_code 36 = .ok (.iconst 5, 1) := by decide +kernel
theorem d2_37 : decode method_3_code 37 = .ok (.ireturn, 1) := by decide +kernel
theorem pn_2 : plainFor (⟨"com/example/tacit/tacit/engine/VarintsWritePinLaw", "expectedSize", "(I)I"⟩ : MethodName) = true := plainFor_of_name (by first | (simp [plainName, overriddenIn]; done) | decide +kernel)
theorem ef_2 (m : MethodId) (p0 : Int32) : entryFrame m #[(.int p0)] 1 = mkF m 0 #[.val (.int p0)] [] := by first | (simp [entryFrame, mkF, argsToLocals, Value.category]; done) | rfl
def Qq2 (Z : State) (p0 : Int32)  (h0 : Heap) : Int32 → Heap → Prop := fun z h' => h0 = h' ∧ ∃ nn : Nat, Sz p0 nn ∧ z.toInt = (nn : Int)
abbrev Gg2 (p : Program) (l : Launch) (e : Env) (s : State) (m : MethodId) (below : List Frame) (meth : Method) (c : Code) (n0 : Nat) (h0 : Heap) (Z : State) (p0 : Int32)  (cc ss : Nat) (hh : Heap) (gg : JFrame) : Prop := G p l e ({ frames := 0, cells := 0, slots := 0, locals := 0 } : Room) s m #[(.int p0)] below meth c n0 h0 [] (RI (Qq2 Z p0  h0)) cc ss hh gg
set_option maxRecDepth 65536 in
set_option maxHeartbeats 40000000 in
theorem rm2 (l : Launch) (Z : State) (a0 : Array Value) (hw : ∀ d ∈ tables_1, d.before a0 Z = true) (p0 : Int32)  (h0 : Heap) (n0 : Nat) (hn : n0 ≤ h0.size)  :
    Mt l Z (⟨"com/example/tacit/tacit/engine/VarintsWritePinLaw", "expectedSize", "(I)I"⟩ : MethodName) method_3_code 1 (some .int) [] ({ frames := 0, cells := 0, slots := 0, locals := 0 } : Room) n0 #[(.int p0)] h0 [] (RI (Qq2 Z p0  h0)) := by
  refine Mt.intro pn_2 hn (fun x hx => nomatch hx) ?_
  have hz : h0.size ≤ h0.size := Nat.le_refl _
  intro p e s m below meth c B
  refine G.entry (ef_2 m p0) ?_
  show Gg2 p l e s m below meth c n0 h0 Z p0  0 0 h0 (mkF m 0 #[.val (.int p0)] [])
  have s1 := c_iushr p0 7 7 (by decide) (by decide)
  have s2 := c_iushr p0 14 14 (by decide) (by decide)
  have s3 := c_iushr p0 21 21 (by decide) (by decide)
  have s4 := c_iushr p0 28 28 (by decide) (by decide)
  refine G.iloadN B d2_0 (v := p0) rfl (pc' := 1) rfl ?_
  refine G.bipush B d2_1 (z := (7 : Int32)) rfl (pc' := 3) rfl ?_
  refine G.iushr B d2_3 (pc' := 4) rfl ?_
  refine G.if_ne B d2_4 (by decide) (pcT := 9) (by decide) (pc' := 7) rfl (fun (hc4 : ((p0.toUInt32 >>> ((7 : Int32) &&& 31).toUInt32).toInt32) ≠ 0) => ?_) (fun (hc4 : ((p0.toUInt32 >>> ((7 : Int32) &&& 31).toUInt32).toInt32) = 0) => ?_)
  · rw [Ne, own_z] at hc4
    refine G.iloadN B d2_9 (v := p0) rfl (pc' := 10) rfl ?_
    refine G.bipush B d2_10 (z := (14 : Int32)) rfl (pc' := 12) rfl ?_
    refine G.iushr B d2_12 (pc' := 13) rfl ?_
    refine G.if_ne B d2_13 (by decide) (pcT := 18) (by decide) (pc' := 16) rfl (fun (hc13 : ((p0.toUInt32 >>> ((14 : Int32) &&& 31).toUInt32).toInt32) ≠ 0) => ?_) (fun (hc13 : ((p0.toUInt32 >>> ((14 : Int32) &&& 31).toUInt32).toInt32) = 0) => ?_)
    · rw [Ne, own_z] at hc13
      refine G.iloadN B d2_18 (v := p0) rfl (pc' := 19) rfl ?_
      refine G.bipush B d2_19 (z := (21 : Int32)) rfl (pc' := 21) rfl ?_
      refine G.iushr B d2_21 (pc' := 22) rfl ?_
      refine G.if_ne B d2_22 (by decide) (pcT := 27) (by decide) (pc' := 25) rfl (fun (hc22 : ((p0.toUInt32 >>> ((21 : Int32) &&& 31).toUInt32).toInt32) ≠ 0) => ?_) (fun (hc22 : ((p0.toUInt32 >>> ((21 : Int32) &&& 31).toUInt32).toInt32) = 0) => ?_)
      · rw [Ne, own_z] at hc22
        refine G.iloadN B d2_27 (v := p0) rfl (pc' := 28) rfl ?_
        refine G.bipush B d2_28 (z := (28 : Int32)) rfl (pc' := 30) rfl ?_
        refine G.iushr B d2_30 (pc' := 31) rfl ?_
        refine G.if_ne B d2_31 (by decide) (pcT := 36) (by decide) (pc' := 34) rfl (fun (hc31 : ((p0.toUInt32 >>> ((28 : Int32) &&& 31).toUInt32).toInt32) ≠ 0) => ?_) (fun (hc31 : ((p0.toUInt32 >>> ((28 : Int32) &&& 31).toUInt32).toInt32) = 0) => ?_)
        · rw [Ne, own_z] at hc31
          refine G.iconst B d2_36 (z := (5 : Int32)) rfl (pc' := 37) rfl ?_
          exact G.retI B d2_37 (by decide) (by decide) ⟨rfl, 5, Or.inr (Or.inr (Or.inr (Or.inr ⟨rfl, by omega⟩))), by decide⟩
        · rw [own_z] at hc31
          refine G.iconst B d2_34 (z := (4 : Int32)) rfl (pc' := 35) rfl ?_
          exact G.retI B d2_35 (by decide) (by decide) ⟨rfl, 4, Or.inr (Or.inr (Or.inr (Or.inl ⟨rfl, by omega, by omega⟩))), by decide⟩
      · rw [own_z] at hc22
        refine G.iconst B d2_25 (z := (3 : Int32)) rfl (pc' := 26) rfl ?_
        exact G.retI B d2_26 (by decide) (by decide) ⟨rfl, 3, Or.inr (Or.inr (Or.inl ⟨rfl, by omega, by omega⟩)), by decide⟩
    · rw [own_z] at hc13
      refine G.iconst B d2_16 (z := (2 : Int32)) rfl (pc' := 17) rfl ?_
      exact G.retI B d2_17 (by decide) (by decide) ⟨rfl, 2, Or.inr (Or.inl ⟨rfl, by omega, by omega⟩), by decide⟩
  · rw [own_z] at hc4
    refine G.iconst B d2_7 (z := (1 : Int32)) rfl (pc' := 8) rfl ?_
    exact G.retI B d2_8 (by decide) (by decide) ⟨rfl, 1, Or.inl ⟨rfl, by omega⟩, by decide⟩
theorem d3_0 : decode method_4_code 0 = .ok (.iload_n 0, 1) := by decide +kernel
theorem d3_1 : decode method_4_code 1 = .ok (.iload_n 1, 1) := by decide +kernel
theorem d3_2 : decode method_4_code 2 = .ok (.isub, 1) := by decide +kernel
theorem d3_3 : decode method_4_code 3 = .ok (.istore 5, 2) := by decide +kernel
theorem d3_5 : decode method_4_code 5 = .ok (.iload 5, 2) := by decide +kernel
theorem d3_7 : decode method_4_code 7 = .ok (.ifCond .lt 9, 3) := by decide +kernel
theorem d3_10 : decode method_4_code 10 = .ok (.iload 5, 2) := by decide +kernel
theorem d3_12 : decode method_4_code 12 = .ok (.iload_n 2, 1) := by decide +kernel
theorem d3_13 : decode method_4_code 13 = .ok (.if_icmp .lt 6, 3) := by decide +kernel
theorem d3_16 : decode method_4_code 16 = .ok (.iload 4, 2) := by decide +kernel
theorem d3_18 : decode method_4_code 18 = .ok (.ireturn, 1) := by decide +kernel
theorem d3_19 : decode method_4_code 19 = .ok (.iload_n 3, 1) := by decide +kernel
theorem d3_20 : decode method_4_code 20 = .ok (.bipush 7, 2) := by decide +kernel
theorem d3_22 : decode method_4_code 22 = .ok (.iload 5, 2) := by decide +kernel
theorem d3_24 : decode method_4_code 24 = .ok (.imul, 1) := by decide +kernel
theorem d3_25 : decode method_4_code 25 = .ok (.iushr, 1) := by decide +kernel
theorem d3_26 : decode method_4_code 26 = .ok (.bipush 127, 2) := by decide +kernel
theorem d3_28 : decode method_4_code 28 = .ok (.iand, 1) := by decide +kernel
theorem d3_29 : decode method_4_code 29 = .ok (.istore 6, 2) := by decide +kernel
theorem d3_31 : decode method_4_code 31 = .ok (.iload 5, 2) := by decide +kernel
theorem d3_33 : decode method_4_code 33 = .ok (.iload_n 2, 1) := by decide +kernel
theorem d3_34 : decode method_4_code 34 = .ok (.iconst 1, 1) := by decide +kernel
theorem d3_35 : decode method_4_code 35 = .ok (.isub, 1) := by decide +kernel
theorem d3_36 : decode method_4_code 36 = .ok (.if_icmp .ge 11, 3) := by decide +kernel
theorem d3_39 : decode method_4_code 39 = .ok (.iload 6, 2) := by decide +kernel
theorem d3_41 : decode method_4_code 41 = .ok (.sipush 128, 3) := by decide +kernel
theorem d3_44 : decode method_4_code 44 = .ok (.ior, 1) := by decide +kernel
theorem d3_45 : decode method_4_code 45 = .ok (.istore 6, 2) := by decide +kernel
theorem d3_47 : decode method_4_code 47 = .ok (.iload 6, 2) := by decide +kernel
theorem d3_49 : decode method_4_code 49 = .ok (.i2b, 1) := by decide +kernel
theorem d3_50 : decode method_4_code 50 = .ok (.ireturn, 1) := by decide +kernel
theorem pn_3 : plainFor (⟨"com/example/tacit/tacit/engine/VarintsWritePinLaw", "expected", "(IIIIB)B"⟩ : MethodName) = true := plainFor_of_name (by first | (simp [plainName, overriddenIn]; done) | decide +kernel)
theorem ef_3 (m : MethodId) (p0 : Int32) (p1 : Int32) (p2 : Int32) (p3 : Int32) (p4 : Int32) : entryFrame m #[(.int p0), (.int p1), (.int p2), (.int p3), (.int p4)] 7 = mkF m 0 #[.val (.int p0), .val (.int p1), .val (.int p2), .val (.int p3), .val (.int p4), .unset, .unset] [] := by first | (simp [entryFrame, mkF, argsToLocals, Value.category]; done) | rfl
def Qq3 (Z : State) (p0 : Int32) (p1 : Int32) (p2 : Int32) (p3 : Int32) (p4 : Int32)  (h0 : Heap) : Int32 → Heap → Prop := fun z h' => h0 = h' ∧ ((((p0 - p1).toInt < 0 ∨ p2.toInt ≤ (p0 - p1).toInt) ∧ z = nar .byte p4) ∨ (0 ≤ (p0 - p1).toInt ∧ (p0 - p1).toInt < p2.toInt ∧ (((p2 - (1 : Int32)).toInt ≤ (p0 - p1).toInt ∧ z = (((p3.toUInt32 >>> (((7 : Int32) * (p0 - p1)) &&& 31).toUInt32).toInt32) &&& (127 : Int32)).toInt8.toInt32) ∨ ((p0 - p1).toInt < (p2 - (1 : Int32)).toInt ∧ z = ((((p3.toUInt32 >>> (((7 : Int32) * (p0 - p1)) &&& 31).toUInt32).toInt32) &&& (127 : Int32)) ||| (128 : Int32)).toInt8.toInt32))))
abbrev Gg3 (p : Program) (l : Launch) (e : Env) (s : State) (m : MethodId) (below : List Frame) (meth : Method) (c : Code) (n0 : Nat) (h0 : Heap) (Z : State) (p0 : Int32) (p1 : Int32) (p2 : Int32) (p3 : Int32) (p4 : Int32)  (cc ss : Nat) (hh : Heap) (gg : JFrame) : Prop := G p l e ({ frames := 0, cells := 0, slots := 0, locals := 0 } : Room) s m #[(.int p0), (.int p1), (.int p2), (.int p3), (.int p4)] below meth c n0 h0 [] (RI (Qq3 Z p0 p1 p2 p3 p4  h0)) cc ss hh gg
set_option maxRecDepth 65536 in
set_option maxHeartbeats 40000000 in
theorem rm3 (l : Launch) (Z : State) (a0 : Array Value) (hw : ∀ d ∈ tables_1, d.before a0 Z = true) (p0 : Int32) (p1 : Int32) (p2 : Int32) (p3 : Int32) (p4 : Int32)  (h0 : Heap) (n0 : Nat) (hn : n0 ≤ h0.size)  :
    Mt l Z (⟨"com/example/tacit/tacit/engine/VarintsWritePinLaw", "expected", "(IIIIB)B"⟩ : MethodName) method_4_code 7 (some .byte) [] ({ frames := 0, cells := 0, slots := 0, locals := 0 } : Room) n0 #[(.int p0), (.int p1), (.int p2), (.int p3), (.int p4)] h0 [] (RI (Qq3 Z p0 p1 p2 p3 p4  h0)) := by
  refine Mt.intro pn_3 hn (fun x hx => nomatch hx) ?_
  have hz : h0.size ≤ h0.size := Nat.le_refl _
  intro p e s m below meth c B
  refine G.entry (ef_3 m p0 p1 p2 p3 p4) ?_
  show Gg3 p l e s m below meth c n0 h0 Z p0 p1 p2 p3 p4  0 0 h0 (mkF m 0 #[.val (.int p0), .val (.int p1), .val (.int p2), .val (.int p3), .val (.int p4), .unset, .unset] [])
  refine G.iloadN B d3_0 (v := p0) rfl (pc' := 1) rfl ?_
  refine G.iloadN B d3_1 (v := p1) rfl (pc' := 2) rfl ?_
  refine G.isub B d3_2 (pc' := 3) rfl ?_
  refine G.istore B d3_3 (ls' := #[.val (.int p0), .val (.int p1), .val (.int p2), .val (.int p3), .val (.int p4), .val (.int (p0 - p1)), .unset]) rfl (pc' := 5) rfl ?_
  refine G.iload B d3_5 (v := (p0 - p1)) rfl (pc' := 7) rfl ?_
  refine G.if_lt B d3_7 (by decide) (pcT := 16) (by decide) (pc' := 10) rfl (fun (hc7 : (p0 - p1).toInt < 0) => ?_) (fun (hc7 : 0 ≤ (p0 - p1).toInt) => ?_)
  · refine G.iload B d3_16 (v := p4) rfl (pc' := 18) rfl ?_
    exact G.retN B (by simp) d3_18 (by decide) (by decide) ⟨rfl, Or.inl ⟨Or.inl hc7, rfl⟩⟩
  · refine G.iload B d3_10 (v := (p0 - p1)) rfl (pc' := 12) rfl ?_
    refine G.iloadN B d3_12 (v := p2) rfl (pc' := 13) rfl ?_
    refine G.icmp_lt B d3_13 (by decide) (pcT := 19) (by decide) (pc' := 16) rfl (fun (hc13 : (p0 - p1).toInt < p2.toInt) => ?_) (fun (hc13 : p2.toInt ≤ (p0 - p1).toInt) => ?_)
    · refine G.iloadN B d3_19 (v := p3) rfl (pc' := 20) rfl ?_
      refine G.bipush B d3_20 (z := (7 : Int32)) rfl (pc' := 22) rfl ?_
      refine G.iload B d3_22 (v := (p0 - p1)) rfl (pc' := 24) rfl ?_
      refine G.imul B d3_24 (pc' := 25) rfl ?_
      refine G.iushr B d3_25 (pc' := 26) rfl ?_
      refine G.bipush B d3_26 (z := (127 : Int32)) rfl (pc' := 28) rfl ?_
      refine G.iand B d3_28 (pc' := 29) rfl ?_
      refine G.istore B d3_29 (ls' := #[.val (.int p0), .val (.int p1), .val (.int p2), .val (.int p3), .val (.int p4), .val (.int (p0 - p1)), .val (.int (((p3.toUInt32 >>> (((7 : Int32) * (p0 - p1)) &&& 31).toUInt32).toInt32) &&& (127 : Int32)))]) rfl (pc' := 31) rfl ?_
      refine G.iload B d3_31 (v := (p0 - p1)) rfl (pc' := 33) rfl ?_
      refine G.iloadN B d3_33 (v := p2) rfl (pc' := 34) rfl ?_
      refine G.iconst B d3_34 (z := (1 : Int32)) rfl (pc' := 35) rfl ?_
      refine G.isub B d3_35 (pc' := 36) rfl ?_
      refine G.icmp_ge B d3_36 (by decide) (pcT := 47) (by decide) (pc' := 39) rfl (fun (hc36 : (p2 - (1 : Int32)).toInt ≤ (p0 - p1).toInt) => ?_) (fun (hc36 : (p0 - p1).toInt < (p2 - (1 : Int32)).toInt) => ?_)
      · refine G.iload B d3_47 (v := (((p3.toUInt32 >>> (((7 : Int32) * (p0 - p1)) &&& 31).toUInt32).toInt32) &&& (127 : Int32))) rfl (pc' := 49) rfl ?_
        refine G.i2b B d3_49 (pc' := 50) rfl ?_
        exact G.retN B (by simp) d3_50 (by decide) (by decide) ⟨rfl, Or.inr ⟨hc7, hc13, Or.inl ⟨hc36, own_nb _⟩⟩⟩
      · refine G.iload B d3_39 (v := (((p3.toUInt32 >>> (((7 : Int32) * (p0 - p1)) &&& 31).toUInt32).toInt32) &&& (127 : Int32))) rfl (pc' := 41) rfl ?_
        refine G.sipush B d3_41 (z := (128 : Int32)) rfl (pc' := 44) rfl ?_
        refine G.ior B d3_44 (pc' := 45) rfl ?_
        refine G.istore B d3_45 (ls' := #[.val (.int p0), .val (.int p1), .val (.int p2), .val (.int p3), .val (.int p4), .val (.int (p0 - p1)), .val (.int ((((p3.toUInt32 >>> (((7 : Int32) * (p0 - p1)) &&& 31).toUInt32).toInt32) &&& (127 : Int32)) ||| (128 : Int32)))]) rfl (pc' := 47) rfl ?_
        refine G.iload B d3_47 (v := ((((p3.toUInt32 >>> (((7 : Int32) * (p0 - p1)) &&& 31).toUInt32).toInt32) &&& (127 : Int32)) ||| (128 : Int32))) rfl (pc' := 49) rfl ?_
        refine G.i2b B d3_49 (pc' := 50) rfl ?_
        exact G.retN B (by simp) d3_50 (by decide) (by decide) ⟨rfl, Or.inr ⟨hc7, hc13, Or.inr ⟨hc36, own_nb _⟩⟩⟩
    · refine G.iload B d3_16 (v := p4) rfl (pc' := 18) rfl ?_
      exact G.retN B (by simp) d3_18 (by decide) (by decide) ⟨rfl, Or.inl ⟨Or.inr hc13, rfl⟩⟩
theorem own_k3 (x : Int32) : ∃ i : Nat, (x &&& (3 : Int32)).toInt = (i : Int) ∧ i ≤ 3 := by
  have h := c_mask x 3 2 (by decide) (by decide)
  exact ⟨(x &&& (3 : Int32)).toInt.toNat, by omega, by omega⟩
theorem own_szu {v : Int32} {m n : Nat} (h1 : Sz v m) (h2 : Sz v n) : m = n := by unfold Sz at h1 h2; omega
theorem own_sz5 {v : Int32} {m : Nat} (h1 : Sz v m) : 1 ≤ m ∧ m ≤ 5 := by unfold Sz at h1; omega
theorem own_shk (v K : Int32) (k : Nat) (hk : k ≤ 4) (hK : K.toInt = (k : Int)) : ((v.toUInt32 >>> (((7 : Int32) * K) &&& 31).toUInt32).toInt32) = sh v k := by
  have hK' : K = Int32.ofNat k := by apply Int32.toInt_inj.mp; rw [hK, Int32.toInt_ofNat_of_lt (by omega)]
  subst hK'
  have : k = 0 ∨ k = 1 ∨ k = 2 ∨ k = 3 ∨ k = 4 := by omega
  apply Int32.toInt_inj.mp
  rcases this with rfl | rfl | rfl | rfl | rfl
  · show (v.toUInt32 >>> (0 : UInt32)).toInt32.toInt = v.toInt
    rw [UInt32.shiftRight_zero]; rfl
  · rw [own_s1]; exact c_iushr v ((7 : Int32) * Int32.ofNat 1) 7 (by decide) (by decide)
  · rw [own_s2]; exact c_iushr v ((7 : Int32) * Int32.ofNat 2) 14 (by decide) (by decide)
  · rw [own_s3]; exact c_iushr v ((7 : Int32) * Int32.ofNat 3) 21 (by decide) (by decide)
  · rw [own_s4]; exact c_iushr v ((7 : Int32) * Int32.ofNat 4) 28 (by decide) (by decide)
theorem own_last (v : Int32) (n : Nat) (h : Sz v n) : (sh v (n - 1)) &&& 127 = sh v (n - 1) := by
  have hm := c_mask (sh v (n - 1)) 127 7 (by decide) (by decide)
  apply Int32.toInt_inj.mp
  rw [hm]
  have s1 := own_s1 v
  have s2 := own_s2 v
  have s3 := own_s3 v
  have s4 := own_s4 v
  have s0 : (sh v 0).toInt = v.toInt := rfl
  have r := rng32 v
  unfold Sz at h
  rcases h with ⟨rfl, h⟩ | ⟨rfl, h⟩ | ⟨rfl, h⟩ | ⟨rfl, h⟩ | ⟨rfl, h⟩
  · show (sh v 0).toInt % _ = (sh v 0).toInt; omega
  · show (sh v 1).toInt % _ = (sh v 1).toInt; omega
  · show (sh v 2).toInt % _ = (sh v 2).toInt; omega
  · show (sh v 3).toInt % _ = (sh v 3).toInt; omega
  · show (sh v 4).toInt % _ = (sh v 4).toInt; omega
theorem own_eq (v fill at' n K z p0 : Int32) (i nn j : Nat) (hi : at'.toInt = (i : Int)) (hi3 : i ≤ 3) (hj : p0.toInt = (j : Int)) (hj9 : j ≤ 9) (hs : Sz v nn) (hn : n.toInt = (nn : Int)) (hf : nar .byte fill = fill)
    (h : (((p0 - at').toInt < 0 ∨ n.toInt ≤ (p0 - at').toInt) ∧ z = nar .byte fill) ∨ (0 ≤ (p0 - at').toInt ∧ (p0 - at').toInt < n.toInt ∧ (((n - (1 : Int32)).toInt ≤ (p0 - at').toInt ∧ z = (((v.toUInt32 >>> (((7 : Int32) * (p0 - at')) &&& 31).toUInt32).toInt32) &&& (127 : Int32)).toInt8.toInt32) ∨ ((p0 - at').toInt < (n - (1 : Int32)).toInt ∧ z = ((((v.toUInt32 >>> (((7 : Int32) * (p0 - at')) &&& 31).toUInt32).toInt32) &&& (127 : Int32)) ||| (128 : Int32)).toInt8.toInt32)))) : wb v nn i fill j = z := by
  have a1 := c_isub p0 at'
  have a2 := rng32 (p0 - at')
  have a3 := c_isub n (1 : Int32)
  have a4 := rng32 (n - (1 : Int32))
  have a5 : (1 : Int32).toInt = 1 := by decide
  have a6 := own_sz5 hs
  unfold wb
  rcases h with ⟨c, rfl⟩ | ⟨c1, c2, c3⟩
  · rw [if_neg (by omega), hf]
  · rw [if_pos (by omega)]
    have e := own_shk v (p0 - at') (j - i) (by omega) (by omega)
    rw [e] at c3
    rcases c3 with ⟨c, rfl⟩ | ⟨c, rfl⟩
    · rw [if_neg (by omega)]
      have : j - i = nn - 1 := by omega
      rw [this, own_last v nn hs]
    · rw [if_pos (by omega)]
theorem pn_0 : plainFor x = true := plainFor_of_name (by first | (simp [plainName, overriddenIn]; done) | decide +kernel)
theorem ef_0 (m : MethodId) (p0 : Int32) (p1 : Int32) (p2 : Int32) : entryFrame m #[(.int p0), (.int p1), (.int p2)] maxLocals = mkF m 0 #[.val (.int p0), .val (.int p1), .val (.int p2), .unset, .unset, .unset, .unset, .unset] [] := by first | (simp [entryFrame, mkF, argsToLocals, Value.category, maxLocals]; done) | rfl
theorem pd_0 : parseMethodDescriptor "([BII)I" = some ⟨[(.array .byte), .int, .int], some .int⟩ := by decide +kernel
theorem pd_1 : parseMethodDescriptor "(I)I" = some ⟨[.int], some .int⟩ := by decide +kernel
theorem pd_2 : parseMethodDescriptor "(IIIIB)B" = some ⟨[.int, .int, .int, .int, .byte], some .byte⟩ := by decide +kernel
def Qq0 (Z : State) (p0 : Int32) (p1 : Int32) (p2 : Int32)  (h0 : Heap) : Int32 → Heap → Prop := fun z _ => z = 1
abbrev Gg0 (p : Program) (l : Launch) (e : Env) (s : State) (m : MethodId) (below : List Frame) (meth : Method) (c : Code) (n0 : Nat) (h0 : Heap) (Z : State) (p0 : Int32) (p1 : Int32) (p2 : Int32)  (cc ss : Nat) (hh : Heap) (gg : JFrame) : Prop := G p l e room_1 s m #[(.int p0), (.int p1), (.int p2)] below meth c n0 h0 [] (RI (Qq0 Z p0 p1 p2  h0)) cc ss hh gg
set_option maxRecDepth 65536 in
set_option maxHeartbeats 40000000 in
theorem rm0 (l : Launch) (Z : State) (a0 : Array Value) (hw : ∀ d ∈ tables_1, d.before a0 Z = true) (p0 : Int32) (p1 : Int32) (p2 : Int32)  (h0 : Heap) (n0 : Nat) (hn : n0 ≤ h0.size)  :
    Mt l Z x code maxLocals ret tables_1 room_1 n0 #[(.int p0), (.int p1), (.int p2)] h0 [] (RI (Qq0 Z p0 p1 p2  h0)) := by
  refine Mt.intro pn_0 hn (fun x hx => nomatch hx) ?_
  have hz : h0.size ≤ h0.size := Nat.le_refl _
  intro p e s m below meth c B
  refine G.entry (ef_0 m p0 p1 p2) ?_
  show Gg0 p l e s m below meth c n0 h0 Z p0 p1 p2  0 0 h0 (mkF m 0 #[.val (.int p0), .val (.int p1), .val (.int p2), .unset, .unset, .unset, .unset, .unset] [])
  refine G.iloadN B at_0 (v := p1) rfl (pc' := 1) rfl ?_
  refine G.iconst B at_1 (z := (3 : Int32)) rfl (pc' := 2) rfl ?_
  refine G.iand B at_2 (pc' := 3) rfl ?_
  refine G.istoreN B at_3 (ls' := #[.val (.int p0), .val (.int p1), .val (.int p2), .val (.int (p1 &&& (3 : Int32))), .unset, .unset, .unset, .unset]) rfl (pc' := 4) rfl ?_
  refine G.iloadN B at_4 (v := p2) rfl (pc' := 5) rfl ?_
  refine G.i2b B at_5 (pc' := 6) rfl ?_
  refine G.istore B at_6 (ls' := #[.val (.int p0), .val (.int p1), .val (.int p2), .val (.int (p1 &&& (3 : Int32))), .val (.int (p2.toInt8.toInt32)), .unset, .unset, .unset]) rfl (pc' := 8) rfl ?_
  obtain ⟨at', e_at'⟩ : ∃ z, z = (p1 &&& (3 : Int32)) := ⟨_, rfl⟩
  rw [← e_at']
  obtain ⟨fill, e_fill⟩ : ∃ z, z = (p2.toInt8.toInt32) := ⟨_, rfl⟩
  rw [← e_fill]
  show Gg0 p l e s m below meth c n0 h0 Z p0 p1 p2  0 0 h0 (mkF m 8 #[.val (.int p0), .val (.int p1), .val (.int p2), .val (.int at'), .val (.int fill), .unset, .unset, .unset] [])
  obtain ⟨i, hi, hi3⟩ : ∃ i : Nat, at'.toInt = (i : Int) ∧ i ≤ 3 := e_at' ▸ own_k3 p1
  have hfill : nar .byte fill = fill := e_fill ▸ own_nb p2
  refine G.bipush B at_8 (z := (10 : Int32)) rfl (pc' := 10) rfl ?_
  refine G.newB B (hw _ (List.mem_of_getElem? (i := 0) rfl)) (n := 10) (by decide) (cap := 10) (by decide) (by decide) at_10 (pc' := 12) rfl (by decide) (by decide) (fun h1 w hs_w hf_w K1 A_w => ?_)
  replace hn := Nat.le_trans hn K1.1
  replace hz := Nat.le_trans hz K1.1
  show Gg0 p l e s m below meth c n0 h0 Z p0 p1 p2  1 10 h1 (mkF m 12 #[.val (.int p0), .val (.int p1), .val (.int p2), .val (.int at'), .val (.int fill), .unset, .unset, .unset] [(.ref w)])
  refine G.astore B at_12 rfl (ls' := #[.val (.int p0), .val (.int p1), .val (.int p2), .val (.int at'), .val (.int fill), .val (.ref w), .unset, .unset]) rfl (pc' := 14) rfl ?_
  refine G.aload B at_14 (v := (.ref w)) rfl rfl (pc' := 16) rfl ?_
  refine G.iconst B at_16 (z := (0 : Int32)) rfl (pc' := 17) rfl ?_
  refine G.iload B at_17 (v := fill) rfl (pc' := 19) rfl ?_
  refine G.stB B A_w (i := 0) (by decide) (by decide) (Or.inr hf_w) (z := fill) hfill at_19 (pc' := 20) rfl (fun h2 K2 A2 => ?_)
  replace A_w := A2
  replace hn := Nat.le_trans hn K2.1
  replace hz := Nat.le_trans hz K2.1
  refine G.aload B at_20 (v := (.ref w)) rfl rfl (pc' := 22) rfl ?_
  refine G.iconst B at_22 (z := (1 : Int32)) rfl (pc' := 23) rfl ?_
  refine G.iload B at_23 (v := fill) rfl (pc' := 25) rfl ?_
  refine G.stB B A_w (i := 1) (by decide) (by decide) (Or.inr hf_w) (z := fill) hfill at_25 (pc' := 26) rfl (fun h3 K3 A3 => ?_)
  replace A_w := A3
  replace hn := Nat.le_trans hn K3.1
  replace hz := Nat.le_trans hz K3.1
  refine G.aload B at_26 (v := (.ref w)) rfl rfl (pc' := 28) rfl ?_
  refine G.iconst B at_28 (z := (2 : Int32)) rfl (pc' := 29) rfl ?_
  refine G.iload B at_29 (v := fill) rfl (pc' := 31) rfl ?_
  refine G.stB B A_w (i := 2) (by decide) (by decide) (Or.inr hf_w) (z := fill) hfill at_31 (pc' := 32) rfl (fun h4 K4 A4 => ?_)
  replace A_w := A4
  replace hn := Nat.le_trans hn K4.1
  replace hz := Nat.le_trans hz K4.1
  refine G.aload B at_32 (v := (.ref w)) rfl rfl (pc' := 34) rfl ?_
  refine G.iconst B at_34 (z := (3 : Int32)) rfl (pc' := 35) rfl ?_
  refine G.iload B at_35 (v := fill) rfl (pc' := 37) rfl ?_
  refine G.stB B A_w (i := 3) (by decide) (by decide) (Or.inr hf_w) (z := fill) hfill at_37 (pc' := 38) rfl (fun h5 K5 A5 => ?_)
  replace A_w := A5
  replace hn := Nat.le_trans hn K5.1
  replace hz := Nat.le_trans hz K5.1
  refine G.aload B at_38 (v := (.ref w)) rfl rfl (pc' := 40) rfl ?_
  refine G.iconst B at_40 (z := (4 : Int32)) rfl (pc' := 41) rfl ?_
  refine G.iload B at_41 (v := fill) rfl (pc' := 43) rfl ?_
  refine G.stB B A_w (i := 4) (by decide) (by decide) (Or.inr hf_w) (z := fill) hfill at_43 (pc' := 44) rfl (fun h6 K6 A6 => ?_)
  replace A_w := A6
  replace hn := Nat.le_trans hn K6.1
  replace hz := Nat.le_trans hz K6.1
  refine G.aload B at_44 (v := (.ref w)) rfl rfl (pc' := 46) rfl ?_
  refine G.iconst B at_46 (z := (5 : Int32)) rfl (pc' := 47) rfl ?_
  refine G.iload B at_47 (v := fill) rfl (pc' := 49) rfl ?_
  refine G.stB B A_w (i := 5) (by decide) (by decide) (Or.inr hf_w) (z := fill) hfill at_49 (pc' := 50) rfl (fun h7 K7 A7 => ?_)
  replace A_w := A7
  replace hn := Nat.le_trans hn K7.1
  replace hz := Nat.le_trans hz K7.1
  refine G.aload B at_50 (v := (.ref w)) rfl rfl (pc' := 52) rfl ?_
  refine G.bipush B at_52 (z := (6 : Int32)) rfl (pc' := 54) rfl ?_
  refine G.iload B at_54 (v := fill) rfl (pc' := 56) rfl ?_
  refine G.stB B A_w (i := 6) (by decide) (by decide) (Or.inr hf_w) (z := fill) hfill at_56 (pc' := 57) rfl (fun h8 K8 A8 => ?_)
  replace A_w := A8
  replace hn := Nat.le_trans hn K8.1
  replace hz := Nat.le_trans hz K8.1
  refine G.aload B at_57 (v := (.ref w)) rfl rfl (pc' := 59) rfl ?_
  refine G.bipush B at_59 (z := (7 : Int32)) rfl (pc' := 61) rfl ?_
  refine G.iload B at_61 (v := fill) rfl (pc' := 63) rfl ?_
  refine G.stB B A_w (i := 7) (by decide) (by decide) (Or.inr hf_w) (z := fill) hfill at_63 (pc' := 64) rfl (fun h9 K9 A9 => ?_)
  replace A_w := A9
  replace hn := Nat.le_trans hn K9.1
  replace hz := Nat.le_trans hz K9.1
  refine G.aload B at_64 (v := (.ref w)) rfl rfl (pc' := 66) rfl ?_
  refine G.bipush B at_66 (z := (8 : Int32)) rfl (pc' := 68) rfl ?_
  refine G.iload B at_68 (v := fill) rfl (pc' := 70) rfl ?_
  refine G.stB B A_w (i := 8) (by decide) (by decide) (Or.inr hf_w) (z := fill) hfill at_70 (pc' := 71) rfl (fun h10 K10 A10 => ?_)
  replace A_w := A10
  replace hn := Nat.le_trans hn K10.1
  replace hz := Nat.le_trans hz K10.1
  refine G.aload B at_71 (v := (.ref w)) rfl rfl (pc' := 73) rfl ?_
  refine G.bipush B at_73 (z := (9 : Int32)) rfl (pc' := 75) rfl ?_
  refine G.iload B at_75 (v := fill) rfl (pc' := 77) rfl ?_
  refine G.stB B A_w (i := 9) (by decide) (by decide) (Or.inr hf_w) (z := fill) hfill at_77 (pc' := 78) rfl (fun h11 K11 A11 => ?_)
  replace A_w := A11
  replace hn := Nat.le_trans hn K11.1
  replace hz := Nat.le_trans hz K11.1
  replace A_w := A_w.congr (g := fun _ => fill) (fun k hk => by
    simp only [up]
    repeat' split
    all_goals first | rfl | omega)
  refine G.aload B at_78 (v := (.ref w)) rfl rfl (pc' := 80) rfl ?_
  refine G.iloadN B at_80 (v := at') rfl (pc' := 81) rfl ?_
  refine G.iloadN B at_81 (v := p0) rfl (pc' := 82) rfl ?_
  refine G.callS (y := (⟨"com/example/tacit/tacit/engine/Varints", "write", "([BII)I"⟩ : MethodName)) B (hw _ (List.mem_of_getElem? (i := 1) rfl)) (hw _ (List.mem_of_getElem? (i := 2) rfl)) (rm := ({ frames := 0, cells := 0, slots := 0, locals := 0 } : Room)) (ws' := [w]) (rm1 l Z a0 hw w at' p0 i (fun _ => fill) _ n0 hn A_w hi hi3 (own_fr B (Or.inr hf_w))) (allS (Or.inr hf_w) all0) (hw _ (List.mem_of_getElem? (i := 4) rfl)) (hw _ (List.mem_of_getElem? (i := 3) rfl)) (by decide) rfl (argsL := [(.ref w), (.int at'), (.int p0)]) (rest := []) rfl (lenOf pd_0 rfl) (by decide) (W := 0) (Nat.le_of_eq rfl) (by decide) (by decide) (by decide) at_82 (pc' := 85) rfl ?_
  rintro _ h12 K12 ⟨en, rfl, g, nn, A_w, hsz, hen, hg⟩
  replace hn := Nat.le_trans hn K12.1
  replace hz := Nat.le_trans hz K12.1
  show Gg0 p l e s m below meth c n0 h0 Z p0 p1 p2  1 10 h12 (mkF m 85 #[.val (.int p0), .val (.int p1), .val (.int p2), .val (.int at'), .val (.int fill), .val (.ref w), .unset, .unset] [(.int en)])
  refine G.istore B at_85 (ls' := #[.val (.int p0), .val (.int p1), .val (.int p2), .val (.int at'), .val (.int fill), .val (.ref w), .val (.int en), .unset]) rfl (pc' := 87) rfl ?_
  refine G.iloadN B at_87 (v := p0) rfl (pc' := 88) rfl ?_
  refine G.callS (y := (⟨"com/example/tacit/tacit/engine/VarintsWritePinLaw", "expectedSize", "(I)I"⟩ : MethodName)) B (hw _ (List.mem_of_getElem? (i := 5) rfl)) (hw _ (List.mem_of_getElem? (i := 6) rfl)) (rm := ({ frames := 0, cells := 0, slots := 0, locals := 0 } : Room)) (ws' := []) (rm2 l Z a0 hw p0 _ n0 hn) (fun x hx => nomatch hx) (hw _ (List.mem_of_getElem? (i := 8) rfl)) (hw _ (List.mem_of_getElem? (i := 7) rfl)) (by decide) rfl (argsL := [(.int p0)]) (rest := []) rfl (lenOf pd_1 rfl) (by decide) (W := 0) (Nat.le_of_eq rfl) (by decide) (by decide) (by decide) at_88 (pc' := 91) rfl ?_
  rintro _ _ K13 ⟨n, rfl, rfl, nn2, hsz2, hn2⟩
  show Gg0 p l e s m below meth c n0 h0 Z p0 p1 p2  1 10 h12 (mkF m 91 #[.val (.int p0), .val (.int p1), .val (.int p2), .val (.int at'), .val (.int fill), .val (.ref w), .val (.int en), .unset] [(.int n)])
  obtain rfl := own_szu hsz hsz2
  refine G.istore B at_91 (ls' := #[.val (.int p0), .val (.int p1), .val (.int p2), .val (.int at'), .val (.int fill), .val (.ref w), .val (.int en), .val (.int n)]) rfl (pc' := 93) rfl ?_
  refine G.iload B at_93 (v := en) rfl (pc' := 95) rfl ?_
  refine G.iloadN B at_95 (v := at') rfl (pc' := 96) rfl ?_
  refine G.iload B at_96 (v := n) rfl (pc' := 98) rfl ?_
  refine G.iadd B at_98 (pc' := 99) rfl ?_
  have hc99 : en = (at' + n) := by
    apply Int32.toInt_inj.mp
    have h1 := c_iadd at' n
    have h2 := rng32 (at' + n)
    have h3 := own_sz5 hsz
    omega
  refine G.icmp_eq B at_99 (by decide) (pcT := 104) (by decide) (pc' := 102) rfl (fun _ => ?_) (fun q => absurd hc99 q)
  refine G.aload B at_104 (v := (.ref w)) rfl rfl (pc' := 106) rfl ?_
  refine G.iconst B at_106 (z := (0 : Int32)) rfl (pc' := 107) rfl ?_
  refine G.ldB B A_w (i := 0) (by decide) (by decide) (x := (g 0)) rfl at_107 (pc' := 108) rfl ?_
  refine G.iconst B at_108 (z := (0 : Int32)) rfl (pc' := 109) rfl ?_
  refine G.iloadN B at_109 (v := at') rfl (pc' := 110) rfl ?_
  refine G.iload B at_110 (v := n) rfl (pc' := 112) rfl ?_
  refine G.iloadN B at_112 (v := p0) rfl (pc' := 113) rfl ?_
  refine G.iload B at_113 (v := fill) rfl (pc' := 115) rfl ?_
  refine G.callS (y := (⟨"com/example/tacit/tacit/engine/VarintsWritePinLaw", "expected", "(IIIIB)B"⟩ : MethodName)) B (hw _ (List.mem_of_getElem? (i := 9) rfl)) (hw _ (List.mem_of_getElem? (i := 10) rfl)) (rm := ({ frames := 0, cells := 0, slots := 0, locals := 0 } : Room)) (ws' := []) (rm3 l Z a0 hw (0 : Int32) at' n p0 fill _ n0 hn) (fun x hx => nomatch hx) (hw _ (List.mem_of_getElem? (i := 11) rfl)) (hw _ (List.mem_of_getElem? (i := 7) rfl)) (by decide) rfl (argsL := [(.int (0 : Int32)), (.int at'), (.int n), (.int p0), (.int fill)]) (rest := [(.int (g 0))]) rfl (lenOf pd_2 rfl) (by decide) (W := 1) (Nat.le_of_eq rfl) (by decide) (by decide) (by decide) at_115 (pc' := 118) rfl ?_
  rintro _ _ K14 ⟨z0, rfl, rfl, hz0⟩
  show Gg0 p l e s m below meth c n0 h0 Z p0 p1 p2  1 10 h12 (mkF m 118 #[.val (.int p0), .val (.int p1), .val (.int p2), .val (.int at'), .val (.int fill), .val (.ref w), .val (.int en), .val (.int n)] [(.int z0), (.int (g 0))])
  have hc118 : (g 0) = z0 := (hg 0).trans (own_eq p0 fill at' n (0 : Int32) z0 (0 : Int32) i nn 0 hi hi3 (by decide) (by decide) hsz hn2 hfill hz0)
  refine G.icmp_ne B at_118 (by decide) (pcT := 286) (by decide) (pc' := 121) rfl (fun q => absurd hc118 q) (fun _ => ?_)
  refine G.aload B at_121 (v := (.ref w)) rfl rfl (pc' := 123) rfl ?_
  refine G.iconst B at_123 (z := (1 : Int32)) rfl (pc' := 124) rfl ?_
  refine G.ldB B A_w (i := 1) (by decide) (by decide) (x := (g 1)) rfl at_124 (pc' := 125) rfl ?_
  refine G.iconst B at_125 (z := (1 : Int32)) rfl (pc' := 126) rfl ?_
  refine G.iloadN B at_126 (v := at') rfl (pc' := 127) rfl ?_
  refine G.iload B at_127 (v := n) rfl (pc' := 129) rfl ?_
  refine G.iloadN B at_129 (v := p0) rfl (pc' := 130) rfl ?_
  refine G.iload B at_130 (v := fill) rfl (pc' := 132) rfl ?_
  refine G.callS (y := (⟨"com/example/tacit/tacit/engine/VarintsWritePinLaw", "expected", "(IIIIB)B"⟩ : MethodName)) B (hw _ (List.mem_of_getElem? (i := 9) rfl)) (hw _ (List.mem_of_getElem? (i := 10) rfl)) (rm := ({ frames := 0, cells := 0, slots := 0, locals := 0 } : Room)) (ws' := []) (rm3 l Z a0 hw (1 : Int32) at' n p0 fill _ n0 hn) (fun x hx => nomatch hx) (hw _ (List.mem_of_getElem? (i := 11) rfl)) (hw _ (List.mem_of_getElem? (i := 7) rfl)) (by decide) rfl (argsL := [(.int (1 : Int32)), (.int at'), (.int n), (.int p0), (.int fill)]) (rest := [(.int (g 1))]) rfl (lenOf pd_2 rfl) (by decide) (W := 1) (Nat.le_of_eq rfl) (by decide) (by decide) (by decide) at_132 (pc' := 135) rfl ?_
  rintro _ _ K15 ⟨z1, rfl, rfl, hz1⟩
  show Gg0 p l e s m below meth c n0 h0 Z p0 p1 p2  1 10 h12 (mkF m 135 #[.val (.int p0), .val (.int p1), .val (.int p2), .val (.int at'), .val (.int fill), .val (.ref w), .val (.int en), .val (.int n)] [(.int z1), (.int (g 1))])
  have hc135 : (g 1) = z1 := (hg 1).trans (own_eq p0 fill at' n (0 : Int32) z1 (1 : Int32) i nn 1 hi hi3 (by decide) (by decide) hsz hn2 hfill hz1)
  refine G.icmp_ne B at_135 (by decide) (pcT := 286) (by decide) (pc' := 138) rfl (fun q => absurd hc135 q) (fun _ => ?_)
  refine G.aload B at_138 (v := (.ref w)) rfl rfl (pc' := 140) rfl ?_
  refine G.iconst B at_140 (z := (2 : Int32)) rfl (pc' := 141) rfl ?_
  refine G.ldB B A_w (i := 2) (by decide) (by decide) (x := (g 2)) rfl at_141 (pc' := 142) rfl ?_
  refine G.iconst B at_142 (z := (2 : Int32)) rfl (pc' := 143) rfl ?_
  refine G.iloadN B at_143 (v := at') rfl (pc' := 144) rfl ?_
  refine G.iload B at_144 (v := n) rfl (pc' := 146) rfl ?_
  refine G.iloadN B at_146 (v := p0) rfl (pc' := 147) rfl ?_
  refine G.iload B at_147 (v := fill) rfl (pc' := 149) rfl ?_
  refine G.callS (y := (⟨"com/example/tacit/tacit/engine/VarintsWritePinLaw", "expected", "(IIIIB)B"⟩ : MethodName)) B (hw _ (List.mem_of_getElem? (i := 9) rfl)) (hw _ (List.mem_of_getElem? (i := 10) rfl)) (rm := ({ frames := 0, cells := 0, slots := 0, locals := 0 } : Room)) (ws' := []) (rm3 l Z a0 hw (2 : Int32) at' n p0 fill _ n0 hn) (fun x hx => nomatch hx) (hw _ (List.mem_of_getElem? (i := 11) rfl)) (hw _ (List.mem_of_getElem? (i := 7) rfl)) (by decide) rfl (argsL := [(.int (2 : Int32)), (.int at'), (.int n), (.int p0), (.int fill)]) (rest := [(.int (g 2))]) rfl (lenOf pd_2 rfl) (by decide) (W := 1) (Nat.le_of_eq rfl) (by decide) (by decide) (by decide) at_149 (pc' := 152) rfl ?_
  rintro _ _ K16 ⟨z2, rfl, rfl, hz2⟩
  show Gg0 p l e s m below meth c n0 h0 Z p0 p1 p2  1 10 h12 (mkF m 152 #[.val (.int p0), .val (.int p1), .val (.int p2), .val (.int at'), .val (.int fill), .val (.ref w), .val (.int en), .val (.int n)] [(.int z2), (.int (g 2))])
  have hc152 : (g 2) = z2 := (hg 2).trans (own_eq p0 fill at' n (0 : Int32) z2 (2 : Int32) i nn 2 hi hi3 (by decide) (by decide) hsz hn2 hfill hz2)
  refine G.icmp_ne B at_152 (by decide) (pcT := 286) (by decide) (pc' := 155) rfl (fun q => absurd hc152 q) (fun _ => ?_)
  refine G.aload B at_155 (v := (.ref w)) rfl rfl (pc' := 157) rfl ?_
  refine G.iconst B at_157 (z := (3 : Int32)) rfl (pc' := 158) rfl ?_
  refine G.ldB B A_w (i := 3) (by decide) (by decide) (x := (g 3)) rfl at_158 (pc' := 159) rfl ?_
  refine G.iconst B at_159 (z := (3 : Int32)) rfl (pc' := 160) rfl ?_
  refine G.iloadN B at_160 (v := at') rfl (pc' := 161) rfl ?_
  refine G.iload B at_161 (v := n) rfl (pc' := 163) rfl ?_
  refine G.iloadN B at_163 (v := p0) rfl (pc' := 164) rfl ?_
  refine G.iload B at_164 (v := fill) rfl (pc' := 166) rfl ?_
  refine G.callS (y := (⟨"com/example/tacit/tacit/engine/VarintsWritePinLaw", "expected", "(IIIIB)B"⟩ : MethodName)) B (hw _ (List.mem_of_getElem? (i := 9) rfl)) (hw _ (List.mem_of_getElem? (i := 10) rfl)) (rm := ({ frames := 0, cells := 0, slots := 0, locals := 0 } : Room)) (ws' := []) (rm3 l Z a0 hw (3 : Int32) at' n p0 fill _ n0 hn) (fun x hx => nomatch hx) (hw _ (List.mem_of_getElem? (i := 11) rfl)) (hw _ (List.mem_of_getElem? (i := 7) rfl)) (by decide) rfl (argsL := [(.int (3 : Int32)), (.int at'), (.int n), (.int p0), (.int fill)]) (rest := [(.int (g 3))]) rfl (lenOf pd_2 rfl) (by decide) (W := 1) (Nat.le_of_eq rfl) (by decide) (by decide) (by decide) at_166 (pc' := 169) rfl ?_
  rintro _ _ K17 ⟨z3, rfl, rfl, hz3⟩
  show Gg0 p l e s m below meth c n0 h0 Z p0 p1 p2  1 10 h12 (mkF m 169 #[.val (.int p0), .val (.int p1), .val (.int p2), .val (.int at'), .val (.int fill), .val (.ref w), .val (.int en), .val (.int n)] [(.int z3), (.int (g 3))])
  have hc169 : (g 3) = z3 := (hg 3).trans (own_eq p0 fill at' n (0 : Int32) z3 (3 : Int32) i nn 3 hi hi3 (by decide) (by decide) hsz hn2 hfill hz3)
  refine G.icmp_ne B at_169 (by decide) (pcT := 286) (by decide) (pc' := 172) rfl (fun q => absurd hc169 q) (fun _ => ?_)
  refine G.aload B at_172 (v := (.ref w)) rfl rfl (pc' := 174) rfl ?_
  refine G.iconst B at_174 (z := (4 : Int32)) rfl (pc' := 175) rfl ?_
  refine G.ldB B A_w (i := 4) (by decide) (by decide) (x := (g 4)) rfl at_175 (pc' := 176) rfl ?_
  refine G.iconst B at_176 (z := (4 : Int32)) rfl (pc' := 177) rfl ?_
  refine G.iloadN B at_177 (v := at') rfl (pc' := 178) rfl ?_
  refine G.iload B at_178 (v := n) rfl (pc' := 180) rfl ?_
  refine G.iloadN B at_180 (v := p0) rfl (pc' := 181) rfl ?_
  refine G.iload B at_181 (v := fill) rfl (pc' := 183) rfl ?_
  refine G.callS (y := (⟨"com/example/tacit/tacit/engine/VarintsWritePinLaw", "expected", "(IIIIB)B"⟩ : MethodName)) B (hw _ (List.mem_of_getElem? (i := 9) rfl)) (hw _ (List.mem_of_getElem? (i := 10) rfl)) (rm := ({ frames := 0, cells := 0, slots := 0, locals := 0 } : Room)) (ws' := []) (rm3 l Z a0 hw (4 : Int32) at' n p0 fill _ n0 hn) (fun x hx => nomatch hx) (hw _ (List.mem_of_getElem? (i := 11) rfl)) (hw _ (List.mem_of_getElem? (i := 7) rfl)) (by decide) rfl (argsL := [(.int (4 : Int32)), (.int at'), (.int n), (.int p0), (.int fill)]) (rest := [(.int (g 4))]) rfl (lenOf pd_2 rfl) (by decide) (W := 1) (Nat.le_of_eq rfl) (by decide) (by decide) (by decide) at_183 (pc' := 186) rfl ?_
  rintro _ _ K18 ⟨z4, rfl, rfl, hz4⟩
  show Gg0 p l e s m below meth c n0 h0 Z p0 p1 p2  1 10 h12 (mkF m 186 #[.val (.int p0), .val (.int p1), .val (.int p2), .val (.int at'), .val (.int fill), .val (.ref w), .val (.int en), .val (.int n)] [(.int z4), (.int (g 4))])
  have hc186 : (g 4) = z4 := (hg 4).trans (own_eq p0 fill at' n (0 : Int32) z4 (4 : Int32) i nn 4 hi hi3 (by decide) (by decide) hsz hn2 hfill hz4)
  refine G.icmp_ne B at_186 (by decide) (pcT := 286) (by decide) (pc' := 189) rfl (fun q => absurd hc186 q) (fun _ => ?_)
  refine G.aload B at_189 (v := (.ref w)) rfl rfl (pc' := 191) rfl ?_
  refine G.iconst B at_191 (z := (5 : Int32)) rfl (pc' := 192) rfl ?_
  refine G.ldB B A_w (i := 5) (by decide) (by decide) (x := (g 5)) rfl at_192 (pc' := 193) rfl ?_
  refine G.iconst B at_193 (z := (5 : Int32)) rfl (pc' := 194) rfl ?_
  refine G.iloadN B at_194 (v := at') rfl (pc' := 195) rfl ?_
  refine G.iload B at_195 (v := n) rfl (pc' := 197) rfl ?_
  refine G.iloadN B at_197 (v := p0) rfl (pc' := 198) rfl ?_
  refine G.iload B at_198 (v := fill) rfl (pc' := 200) rfl ?_
  refine G.callS (y := (⟨"com/example/tacit/tacit/engine/VarintsWritePinLaw", "expected", "(IIIIB)B"⟩ : MethodName)) B (hw _ (List.mem_of_getElem? (i := 9) rfl)) (hw _ (List.mem_of_getElem? (i := 10) rfl)) (rm := ({ frames := 0, cells := 0, slots := 0, locals := 0 } : Room)) (ws' := []) (rm3 l Z a0 hw (5 : Int32) at' n p0 fill _ n0 hn) (fun x hx => nomatch hx) (hw _ (List.mem_of_getElem? (i := 11) rfl)) (hw _ (List.mem_of_getElem? (i := 7) rfl)) (by decide) rfl (argsL := [(.int (5 : Int32)), (.int at'), (.int n), (.int p0), (.int fill)]) (rest := [(.int (g 5))]) rfl (lenOf pd_2 rfl) (by decide) (W := 1) (Nat.le_of_eq rfl) (by decide) (by decide) (by decide) at_200 (pc' := 203) rfl ?_
  rintro _ _ K19 ⟨z5, rfl, rfl, hz5⟩
  show Gg0 p l e s m below meth c n0 h0 Z p0 p1 p2  1 10 h12 (mkF m 203 #[.val (.int p0), .val (.int p1), .val (.int p2), .val (.int at'), .val (.int fill), .val (.ref w), .val (.int en), .val (.int n)] [(.int z5), (.int (g 5))])
  have hc203 : (g 5) = z5 := (hg 5).trans (own_eq p0 fill at' n (0 : Int32) z5 (5 : Int32) i nn 5 hi hi3 (by decide) (by decide) hsz hn2 hfill hz5)
  refine G.icmp_ne B at_203 (by decide) (pcT := 286) (by decide) (pc' := 206) rfl (fun q => absurd hc203 q) (fun _ => ?_)
  refine G.aload B at_206 (v := (.ref w)) rfl rfl (pc' := 208) rfl ?_
  refine G.bipush B at_208 (z := (6 : Int32)) rfl (pc' := 210) rfl ?_
  refine G.ldB B A_w (i := 6) (by decide) (by decide) (x := (g 6)) rfl at_210 (pc' := 211) rfl ?_
  refine G.bipush B at_211 (z := (6 : Int32)) rfl (pc' := 213) rfl ?_
  refine G.iloadN B at_213 (v := at') rfl (pc' := 214) rfl ?_
  refine G.iload B at_214 (v := n) rfl (pc' := 216) rfl ?_
  refine G.iloadN B at_216 (v := p0) rfl (pc' := 217) rfl ?_
  refine G.iload B at_217 (v := fill) rfl (pc' := 219) rfl ?_
  refine G.callS (y := (⟨"com/example/tacit/tacit/engine/VarintsWritePinLaw", "expected", "(IIIIB)B"⟩ : MethodName)) B (hw _ (List.mem_of_getElem? (i := 9) rfl)) (hw _ (List.mem_of_getElem? (i := 10) rfl)) (rm := ({ frames := 0, cells := 0, slots := 0, locals := 0 } : Room)) (ws' := []) (rm3 l Z a0 hw (6 : Int32) at' n p0 fill _ n0 hn) (fun x hx => nomatch hx) (hw _ (List.mem_of_getElem? (i := 11) rfl)) (hw _ (List.mem_of_getElem? (i := 7) rfl)) (by decide) rfl (argsL := [(.int (6 : Int32)), (.int at'), (.int n), (.int p0), (.int fill)]) (rest := [(.int (g 6))]) rfl (lenOf pd_2 rfl) (by decide) (W := 1) (Nat.le_of_eq rfl) (by decide) (by decide) (by decide) at_219 (pc' := 222) rfl ?_
  rintro _ _ K20 ⟨z6, rfl, rfl, hz6⟩
  show Gg0 p l e s m below meth c n0 h0 Z p0 p1 p2  1 10 h12 (mkF m 222 #[.val (.int p0), .val (.int p1), .val (.int p2), .val (.int at'), .val (.int fill), .val (.ref w), .val (.int en), .val (.int n)] [(.int z6), (.int (g 6))])
  have hc222 : (g 6) = z6 := (hg 6).trans (own_eq p0 fill at' n (0 : Int32) z6 (6 : Int32) i nn 6 hi hi3 (by decide) (by decide) hsz hn2 hfill hz6)
  refine G.icmp_ne B at_222 (by decide) (pcT := 286) (by decide) (pc' := 225) rfl (fun q => absurd hc222 q) (fun _ => ?_)
  refine G.aload B at_225 (v := (.ref w)) rfl rfl (pc' := 227) rfl ?_
  refine G.bipush B at_227 (z := (7 : Int32)) rfl (pc' := 229) rfl ?_
  refine G.ldB B A_w (i := 7) (by decide) (by decide) (x := (g 7)) rfl at_229 (pc' := 230) rfl ?_
  refine G.bipush B at_230 (z := (7 : Int32)) rfl (pc' := 232) rfl ?_
  refine G.iloadN B at_232 (v := at') rfl (pc' := 233) rfl ?_
  refine G.iload B at_233 (v := n) rfl (pc' := 235) rfl ?_
  refine G.iloadN B at_235 (v := p0) rfl (pc' := 236) rfl ?_
  refine G.iload B at_236 (v := fill) rfl (pc' := 238) rfl ?_
  refine G.callS (y := (⟨"com/example/tacit/tacit/engine/VarintsWritePinLaw", "expected", "(IIIIB)B"⟩ : MethodName)) B (hw _ (List.mem_of_getElem? (i := 9) rfl)) (hw _ (List.mem_of_getElem? (i := 10) rfl)) (rm := ({ frames := 0, cells := 0, slots := 0, locals := 0 } : Room)) (ws' := []) (rm3 l Z a0 hw (7 : Int32) at' n p0 fill _ n0 hn) (fun x hx => nomatch hx) (hw _ (List.mem_of_getElem? (i := 11) rfl)) (hw _ (List.mem_of_getElem? (i := 7) rfl)) (by decide) rfl (argsL := [(.int (7 : Int32)), (.int at'), (.int n), (.int p0), (.int fill)]) (rest := [(.int (g 7))]) rfl (lenOf pd_2 rfl) (by decide) (W := 1) (Nat.le_of_eq rfl) (by decide) (by decide) (by decide) at_238 (pc' := 241) rfl ?_
  rintro _ _ K21 ⟨z7, rfl, rfl, hz7⟩
  show Gg0 p l e s m below meth c n0 h0 Z p0 p1 p2  1 10 h12 (mkF m 241 #[.val (.int p0), .val (.int p1), .val (.int p2), .val (.int at'), .val (.int fill), .val (.ref w), .val (.int en), .val (.int n)] [(.int z7), (.int (g 7))])
  have hc241 : (g 7) = z7 := (hg 7).trans (own_eq p0 fill at' n (0 : Int32) z7 (7 : Int32) i nn 7 hi hi3 (by decide) (by decide) hsz hn2 hfill hz7)
  refine G.icmp_ne B at_241 (by decide) (pcT := 286) (by decide) (pc' := 244) rfl (fun q => absurd hc241 q) (fun _ => ?_)
  refine G.aload B at_244 (v := (.ref w)) rfl rfl (pc' := 246) rfl ?_
  refine G.bipush B at_246 (z := (8 : Int32)) rfl (pc' := 248) rfl ?_
  refine G.ldB B A_w (i := 8) (by decide) (by decide) (x := (g 8)) rfl at_248 (pc' := 249) rfl ?_
  refine G.bipush B at_249 (z := (8 : Int32)) rfl (pc' := 251) rfl ?_
  refine G.iloadN B at_251 (v := at') rfl (pc' := 252) rfl ?_
  refine G.iload B at_252 (v := n) rfl (pc' := 254) rfl ?_
  refine G.iloadN B at_254 (v := p0) rfl (pc' := 255) rfl ?_
  refine G.iload B at_255 (v := fill) rfl (pc' := 257) rfl ?_
  refine G.callS (y := (⟨"com/example/tacit/tacit/engine/VarintsWritePinLaw", "expected", "(IIIIB)B"⟩ : MethodName)) B (hw _ (List.mem_of_getElem? (i := 9) rfl)) (hw _ (List.mem_of_getElem? (i := 10) rfl)) (rm := ({ frames := 0, cells := 0, slots := 0, locals := 0 } : Room)) (ws' := []) (rm3 l Z a0 hw (8 : Int32) at' n p0 fill _ n0 hn) (fun x hx => nomatch hx) (hw _ (List.mem_of_getElem? (i := 11) rfl)) (hw _ (List.mem_of_getElem? (i := 7) rfl)) (by decide) rfl (argsL := [(.int (8 : Int32)), (.int at'), (.int n), (.int p0), (.int fill)]) (rest := [(.int (g 8))]) rfl (lenOf pd_2 rfl) (by decide) (W := 1) (Nat.le_of_eq rfl) (by decide) (by decide) (by decide) at_257 (pc' := 260) rfl ?_
  rintro _ _ K22 ⟨z8, rfl, rfl, hz8⟩
  show Gg0 p l e s m below meth c n0 h0 Z p0 p1 p2  1 10 h12 (mkF m 260 #[.val (.int p0), .val (.int p1), .val (.int p2), .val (.int at'), .val (.int fill), .val (.ref w), .val (.int en), .val (.int n)] [(.int z8), (.int (g 8))])
  have hc260 : (g 8) = z8 := (hg 8).trans (own_eq p0 fill at' n (0 : Int32) z8 (8 : Int32) i nn 8 hi hi3 (by decide) (by decide) hsz hn2 hfill hz8)
  refine G.icmp_ne B at_260 (by decide) (pcT := 286) (by decide) (pc' := 263) rfl (fun q => absurd hc260 q) (fun _ => ?_)
  refine G.aload B at_263 (v := (.ref w)) rfl rfl (pc' := 265) rfl ?_
  refine G.bipush B at_265 (z := (9 : Int32)) rfl (pc' := 267) rfl ?_
  refine G.ldB B A_w (i := 9) (by decide) (by decide) (x := (g 9)) rfl at_267 (pc' := 268) rfl ?_
  refine G.bipush B at_268 (z := (9 : Int32)) rfl (pc' := 270) rfl ?_
  refine G.iloadN B at_270 (v := at') rfl (pc' := 271) rfl ?_
  refine G.iload B at_271 (v := n) rfl (pc' := 273) rfl ?_
  refine G.iloadN B at_273 (v := p0) rfl (pc' := 274) rfl ?_
  refine G.iload B at_274 (v := fill) rfl (pc' := 276) rfl ?_
  refine G.callS (y := (⟨"com/example/tacit/tacit/engine/VarintsWritePinLaw", "expected", "(IIIIB)B"⟩ : MethodName)) B (hw _ (List.mem_of_getElem? (i := 9) rfl)) (hw _ (List.mem_of_getElem? (i := 10) rfl)) (rm := ({ frames := 0, cells := 0, slots := 0, locals := 0 } : Room)) (ws' := []) (rm3 l Z a0 hw (9 : Int32) at' n p0 fill _ n0 hn) (fun x hx => nomatch hx) (hw _ (List.mem_of_getElem? (i := 11) rfl)) (hw _ (List.mem_of_getElem? (i := 7) rfl)) (by decide) rfl (argsL := [(.int (9 : Int32)), (.int at'), (.int n), (.int p0), (.int fill)]) (rest := [(.int (g 9))]) rfl (lenOf pd_2 rfl) (by decide) (W := 1) (Nat.le_of_eq rfl) (by decide) (by decide) (by decide) at_276 (pc' := 279) rfl ?_
  rintro _ _ K23 ⟨z9, rfl, rfl, hz9⟩
  show Gg0 p l e s m below meth c n0 h0 Z p0 p1 p2  1 10 h12 (mkF m 279 #[.val (.int p0), .val (.int p1), .val (.int p2), .val (.int at'), .val (.int fill), .val (.ref w), .val (.int en), .val (.int n)] [(.int z9), (.int (g 9))])
  have hc279 : (g 9) = z9 := (hg 9).trans (own_eq p0 fill at' n (0 : Int32) z9 (9 : Int32) i nn 9 hi hi3 (by decide) (by decide) hsz hn2 hfill hz9)
  refine G.icmp_ne B at_279 (by decide) (pcT := 286) (by decide) (pc' := 282) rfl (fun q => absurd hc279 q) (fun _ => ?_)
  refine G.iconst B at_282 (z := (1 : Int32)) rfl (pc' := 283) rfl ?_
  refine G.goto B at_283 (by decide) (pc' := 287) (by decide) ?_
  exact G.retZ B at_287 (by decide) (by decide) (Or.inr rfl) rfl
set_option maxRecDepth 65536 in
set_option maxHeartbeats 40000000 in
theorem comes_1 {Post : Tables → Env → Array Value → State → Outcome → State → Prop} (hpost : ∀ tb e args s v u, (limb_1_1.after args s (.returned v) u = true ∧ limb_1_2.after args s (.returned v) u = true ∧ True) → FrameEnd s (.returned v) u (Jvm.fieldLocs frame_1_writes args s ++ Jvm.arrayLocs frame_1_arrays args s ++ Jvm.staticLocs frame_1_statics s) 16 128 → Post tb e args s (.returned v) u) :
    ArmFor flags0 classFile x code maxLocals ret World_1 tables_1 room_1 Calls_1 rest_1 Pre_1 Post := by
  intro l hfl _ _ p e ha hc hk s m args below hf hA hF happ hP
  obtain ⟨hcalls, hrest, hpre⟩ := hP
  obtain ⟨-, -, -, hnamed, -, -, -, hat⟩ := (Spec.applies_iff hf).mp happ
  obtain ⟨hg, hn⟩ := and_e (Cond.before_iff.mp (show (Jvm.Cond.and given_1 narrow_1).before args s = true from hpre))
  obtain ⟨hq0, hg0⟩ := and_e hg
  obtain ⟨hq1, hg1⟩ := and_e hg0
  obtain ⟨hq2, hg2⟩ := and_e hg1
  obtain ⟨w0, w1, w2, rfl⟩ : ∃ w0 w1 w2 : Value, args = #[w0, w1, w2] := by
    have hs : args.size = 3 := by simpa [Cond.value, given_1] using hq0
    obtain ⟨L⟩ := args
    match L, hs with
    | [w0, w1, w2], _ => exact ⟨w0, w1, w2, rfl⟩
  have hw := fun d (hd : d ∈ tables_1) => atoms_spec (ws := Jvm.Cond.code x code maxLocals ret :: tables_1) hat d (List.mem_cons_of_mem _ hd)
  obtain ⟨i0, e0⟩ := is_v hq1
  obtain rfl : w0 = (.int i0) := Option.some.inj e0
  obtain ⟨i1, e1⟩ := is_v hq2
  obtain rfl : w1 = (.int i1) := Option.some.inj e1
  obtain ⟨i2, e2⟩ := is_v hg2
  obtain rfl : w2 = (.int i2) := Option.some.inj e2
  obtain ⟨n, o, h1, h2, h3, _, L, rfl, ⟨N, -, _, rfl, rfl⟩, hq⟩ := rm0 l s _ hw i0 i1 i2 s.heap s.heap.size (Nat.le_refl _) p e ha hc hk s m _ below hf ((Spec.applies_iff_loose hf).mp happ).1 ⟨rfl, State.Warmed39.refl s, rfl⟩ trivial
  refine ⟨n, _, h1, h2, h3, hpost _ _ _ _ _ _ ⟨Cond.after_iff.mpr rfl, Cond.after_iff.mpr (eq_i res_at (Term.int_eval (1)) rfl), trivial⟩ ⟨hq.1, hq.2.1, (hq.2.2.sift fun y hy => Or.inr (N y hy)).mono (by decide) (by decide)⟩⟩
theorem main_1_1 : Claimed_1_1 := comes_1 fun _ _ _ _ _ _ h hF => ⟨h.1, hF⟩
theorem main_1_2 : Claimed_1_2 := comes_1 fun _ _ _ _ _ _ h hF => ⟨h.2.1, hF⟩
end Jvm.Pilot.@@N@@
namespace Jvm.Pilot.@@N@@
open Jvm Jvm.ClassFile Sem Op Lib Jvm.Free Jvm.Stand Jvm.Pilot.@@N@@.Jvm.D
/-! MADE BY PROGRAM (witnessworld.py) out of the Statement's table words and the real class files: 9 classes; the members and pool entries that the words name. The judged class is class 1, her method 1. -/
namespace start1
open Jvm.ClassFile
def u (s : String) : CpInfo := .utf8 (stringToUtf16 s)
/-- a pool by its gaps: so many unusable entries, then the entry; so many at the end -/
def gap : Nat → List CpInfo → List CpInfo
  | 0, r => r
  | n + 1, r => .unusable :: gap n r
def poolList (es : List (Nat × CpInfo)) (last : Nat) : List CpInfo := es.foldr (fun e r => gap e.1 (e.2 :: r)) (gap last [])
def pool (es : List (Nat × CpInfo)) (last : Nat) : Array CpInfo := ⟨poolList es last⟩
def fileOf (pool : Array CpInfo) (this : Nat) (attrs : Array Attribute := #[]) (ms : Array MethodInfo := #[]) (fl : Nat := 33) (sup : Nat := 0) (ifs : Array Nat := #[]) (fds : Array FieldInfo := #[]) : ClassFile where
  minorVersion := 0
  majorVersion := 65
  constantPool := pool
  accessFlags := fl
  thisClass := this
  superClass := sup
  interfaces := ifs
  fields := fds
  methods := ms
  attributes := attrs
def plain (name : String) (sup : Option ClassId) : Class where
  name := name
  kind := .ordinary
  loader := none
  accessFlags := 33
  super := sup
  interfaces := #[]
  cf := none
  fields := #[]
  methods := #[]
  instanceTypes := #[]
  staticTypes := #[]
  resolved := #[]
  callSites := []
  init := .initialized
  statics := none
  mirror := none

def pool0 : Array CpInfo := pool [(5, u "<init>"), (0, u "()V"), (1, .class_ 10), (1, u "java/lang/Object")] 113

def k0m0 : Method := { name := "<init>", desc := "()V", sig := { parameters := [], returnType := none }, accessFlags := 1, code := none }
/-- java/lang/Object -/
def k0 : Class := { plain "java/lang/Object" none with
  accessFlags := 33
  interfaces := #[]
  cf := some (fileOf pool0 8 #[] #[{ accessFlags := 1, nameIndex := 5, descriptorIndex := 6, attributes := #[] }] 33 0 #[] #[])
  fields := #[]
  methods := #[k0m0]
  instanceTypes := #[]
  staticTypes := #[]
  resolved := Array.replicate 124 none
  statics := none }

def pool1 : Array CpInfo := pool [(2, .class_ 4), (1, u "java/lang/Object"), (0, u "<init>"), (0, u "()V"), (0, .methodref 8 9), (0, .class_ 10), (0, .nameAndType 11 12), (0, u "com/example/tacit/tacit/engine/Varints"), (0, u "write"), (0, u "([BII)I"), (0, .methodref 14 15), (0, .class_ 16), (0, .nameAndType 17 18), (0, u "com/example/tacit/tacit/engine/VarintsWritePinLaw"), (0, u "expectedSize"), (0, u "(I)I"), (0, .methodref 14 20), (0, .nameAndType 21 22), (0, u "expected"), (0, u "(IIIIB)B"), (2, u "law"), (0, u "(III)Z")] 5

def k1m0 : Method := { name := "<init>", desc := "()V", sig := { parameters := [], returnType := none }, accessFlags := 2, code := none }
def k1c1 : Code := { maxStack := 6, maxLocals := 8, code := code, exceptionTable := #[], attributes := #[] }
def k1m1 : Method := { name := "law", desc := "(III)Z", sig := { parameters := [.int, .int, .int], returnType := some .boolean }, accessFlags := 9, code := some k1c1 }
def k1c2 : Code := { maxStack := 2, maxLocals := 1, code := method_3_code, exceptionTable := #[], attributes := #[] }
def k1m2 : Method := { name := "expectedSize", desc := "(I)I", sig := { parameters := [.int], returnType := some .int }, accessFlags := 10, code := some k1c2 }
def k1c3 : Code := { maxStack := 3, maxLocals := 7, code := method_4_code, exceptionTable := #[], attributes := #[] }
def k1m3 : Method := { name := "expected", desc := "(IIIIB)B", sig := { parameters := [.int, .int, .int, .int, .byte], returnType := some .byte }, accessFlags := 10, code := some k1c3 }
/-- com/example/tacit/tacit/engine/VarintsWritePinLaw -/
def k1 : Class := { plain "com/example/tacit/tacit/engine/VarintsWritePinLaw" (some 0) with
  accessFlags := 49
  interfaces := #[]
  cf := some (fileOf pool1 14 #[] #[{ accessFlags := 2, nameIndex := 5, descriptorIndex := 6, attributes := #[] }, { accessFlags := 9, nameIndex := 25, descriptorIndex := 26, attributes := #[] }, { accessFlags := 10, nameIndex := 17, descriptorIndex := 18, attributes := #[] }, { accessFlags := 10, nameIndex := 21, descriptorIndex := 22, attributes := #[] }] 49 2 #[] #[])
  fields := #[]
  methods := #[k1m0, k1m1, k1m2, k1m3]
  instanceTypes := #[]
  staticTypes := #[]
  resolved := Array.replicate 32 none
  statics := none }

def pool2 : Array CpInfo := pool [(2, .class_ 4), (1, u "java/lang/Object"), (0, u "<init>"), (0, u "()V"), (0, .class_ 8), (0, u "com/example/tacit/tacit/engine/Varints"), (0, u "MOST_BYTES"), (0, u "I"), (7, u "write"), (0, u "([BII)I")] 5

def k2m0 : Method := { name := "<init>", desc := "()V", sig := { parameters := [], returnType := none }, accessFlags := 2, code := none }
def k2c1 : Code := { maxStack := 4, maxLocals := 4, code := prog_44_method_3_code, exceptionTable := #[], attributes := #[] }
def k2m1 : Method := { name := "write", desc := "([BII)I", sig := { parameters := [(.array .byte), .int, .int], returnType := some .int }, accessFlags := 8, code := some k2c1 }
/-- com/example/tacit/tacit/engine/Varints -/
def k2 : Class := { plain "com/example/tacit/tacit/engine/Varints" (some 0) with
  accessFlags := 48
  interfaces := #[]
  cf := some (fileOf pool2 7 #[] #[{ accessFlags := 2, nameIndex := 5, descriptorIndex := 6, attributes := #[] }, { accessFlags := 8, nameIndex := 18, descriptorIndex := 19, attributes := #[] }] 48 2 #[] #[{ accessFlags := 24, nameIndex := 9, descriptorIndex := 10, attributes := #[] }])
  fields := #[{ name := "MOST_BYTES", type := .int, accessFlags := 24, slot := 0, constantValue := 0 }]
  methods := #[k2m0, k2m1]
  instanceTypes := #[]
  staticTypes := #[.int]
  resolved := Array.replicate 25 none
  statics := none }

def pool3 : Array CpInfo := pool [(1, u "java/lang/Cloneable"), (0, .class_ 1), (0, u "java/lang/Object"), (0, .class_ 3)] 3

/-- java/lang/Cloneable -/
def k3 : Class := { plain "java/lang/Cloneable" (some 0) with
  accessFlags := 1537
  interfaces := #[]
  cf := some (fileOf pool3 2 #[] #[] 1537 4 #[] #[])
  fields := #[]
  methods := #[]
  instanceTypes := #[]
  staticTypes := #[]
  resolved := Array.replicate 8 none
  statics := none }

def pool4 : Array CpInfo := pool [(1, u "java/io/Serializable"), (0, .class_ 1), (0, u "java/lang/Object"), (0, .class_ 3)] 3

/-- java/io/Serializable -/
def k4 : Class := { plain "java/io/Serializable" (some 0) with
  accessFlags := 1537
  interfaces := #[]
  cf := some (fileOf pool4 2 #[] #[] 1537 4 #[] #[])
  fields := #[]
  methods := #[]
  instanceTypes := #[]
  staticTypes := #[]
  resolved := Array.replicate 8 none
  statics := none }

/-- the primitive byte -/
def k5 : Class := { plain "byte" none with kind := .primitive 'B', accessFlags := 0x411 }
/-- [B -/
def k6 : Class := { plain "[B" (some 0) with kind := .array 5 .byte, interfaces := #[3, 4], accessFlags := 1041 }

/-- the primitive int -/
def k7 : Class := { plain "int" none with kind := .primitive 'I', accessFlags := 0x411 }
/-- [I -/
def k8 : Class := { plain "[I" (some 0) with kind := .array 7 .int, interfaces := #[3, 4], accessFlags := 1041 }

def heap : Heap := #[]
def classes : Array Class := #[k0, k1, k2, k3, k4, k5, k6, k7, k8]
def interned : List (Array UInt16 × Addr) := []
def slotsUsed : Nat := 0
def theMethod : MethodId := ⟨1, 1⟩
def args0 : Array Value := #[.int 5, .int 7, .int 3]
def aboutOver (below : List Frame) : State where
  vm := { classes := classes, interned := interned.toArray }
  heap := heap
  slotsUsed := slotsUsed
  threads := #[{ frames := .invoking theMethod args0 :: below }]
def below0 : List Frame := [.native { method := ⟨0, 0⟩, args := #[] }]
def about1 : State := aboutOver below0
def p0 : Program := .bare "" "" ""
def e0 : Env := launch0.env 0 0 0
theorem w_frames : about1.frames = Frame.invoking theMethod args0 :: below0 := rfl
set_option maxRecDepth 65536 in
theorem w_args : argsFit about1.vm theMethod args0 = true := by decide +kernel
set_option maxRecDepth 65536 in
theorem w_heap : heapFits about1 = true := by decide +kernel
set_option maxRecDepth 65536 in
theorem w_runnable : about1.curStatus? = some .runnable := by decide +kernel
set_option maxRecDepth 65536 in
theorem w_alone : about1.alone = true := by decide +kernel
set_option maxRecDepth 65536 in
theorem w_named : about1.methodNamed? x = some theMethod := by decide +kernel
set_option maxRecDepth 65536 in
theorem w_hears : about1.hears theMethod below0 = true := by decide +kernel
set_option maxRecDepth 65536 in
theorem w_ripe : about1.ripe theMethod args0 below0 = true := by decide +kernel
theorem w_running : about1.status = .running := rfl
set_option maxRecDepth 65536 in
theorem w_room : about1.hasRoom e0.platform room_1 = true :=
  launch0.hasRoom_least _ room_1 (by decide +kernel) (by decide +kernel) (by decide +kernel) (by decide +kernel) (by decide +kernel) (by decide +kernel)
theorem allAtoms_all (ts : List Jvm.Cond) (a : Array Jvm.Value) (st : Jvm.State) : (allAtoms ts).before a st = ts.all (fun c => c.before a st) := by
  induction ts with
  | nil => rfl
  | cons c t ih =>
    show (Jvm.Cond.and c (allAtoms t)).before a st = _
    rw [Jvm.Cond.before_and, ih, List.all_cons]
def words1 : List Jvm.Cond := Jvm.Cond.code x code maxLocals ret :: tables_1
/-- a 'code' word, met by the world's own term for the bytes: nothing is compared byte by byte -/
theorem code_word {y : MethodName} {bytes : ByteArray} {mx : Nat} {rt : Option FieldType} {a : Array Value} {s : State} {m : MethodId} {meth : Method} {c : Code} (h1 : s.methodNamed? y = some m) (h2 : s.vm.method? m = some meth) (h3 : meth.code = some c) (h4 : c.code = bytes)
    (h5 : (c.maxLocals == mx && c.exceptionTable.isEmpty && decide (c.maxStack ≤ mostOperands) && decide (meth.sig.returnType = rt) && !meth.locks && decide (parseMethodDescriptor y.desc = some meth.sig)) = true) : (Jvm.Cond.code y bytes mx rt).before a s = true := by
  simp only [Bool.and_eq_true, beq_iff_eq, Bool.not_eq_true', decide_eq_true_eq] at h5
  obtain ⟨⟨⟨⟨⟨g1, g2⟩, g3⟩, g4⟩, g5⟩, g6⟩ := h5
  simp [Cond.before, Cond.holds, Cond.value, h1, h2, h3, h4, g1, g2, g3, g4, g5, g6]
def isCode : Jvm.Cond → Bool
  | .code _ _ _ _ => true
  | _ => false
theorem all_split {L : List Jvm.Cond} {P : Jvm.Cond → Bool} (h1 : L.all (fun c => isCode c || P c) = true) (h2 : ∀ c ∈ L.filter isCode, P c = true) : L.all P = true := by
  refine List.all_eq_true.mpr fun c hc => ?_
  have h := List.all_eq_true.mp h1 c hc
  rcases Bool.eq_false_or_eq_true (isCode c) with hi | hi
  · exact h2 c (List.mem_filter.mpr ⟨hc, hi⟩)
  · simpa [hi] using h
set_option maxRecDepth 65536 in
theorem w_c0 : (Jvm.Cond.code x code maxLocals ret).before args0 about1 = true := code_word (m := ⟨1, 1⟩) (meth := k1m1) (c := k1c1) (by decide +kernel) rfl rfl rfl (by decide +kernel)
set_option maxRecDepth 65536 in
theorem w_c1 : (Jvm.Cond.code ({ cls := "com/example/tacit/tacit/engine/Varints", name := "write", desc := "([BII)I" } : Jvm.MethodName) prog_44_method_3_code (4 : Nat) (Option.some Jvm.ClassFile.FieldType.int)).before args0 about1 = true := code_word (m := ⟨2, 1⟩) (meth := k2m1) (c := k2c1) (by decide +kernel) rfl rfl rfl (by decide +kernel)
set_option maxRecDepth 65536 in
theorem w_c2 : (Jvm.Cond.code ({ cls := "com/example/tacit/tacit/engine/VarintsWritePinLaw", name := "expectedSize", desc := "(I)I" } : Jvm.MethodName) method_3_code (1 : Nat) (Option.some Jvm.ClassFile.FieldType.int)).before args0 about1 = true := code_word (m := ⟨1, 2⟩) (meth := k1m2) (c := k1c2) (by decide +kernel) rfl rfl rfl (by decide +kernel)
set_option maxRecDepth 65536 in
theorem w_c3 : (Jvm.Cond.code ({ cls := "com/example/tacit/tacit/engine/VarintsWritePinLaw", name := "expected", desc := "(IIIIB)B" } : Jvm.MethodName) method_4_code (7 : Nat) (Option.some Jvm.ClassFile.FieldType.byte)).before args0 about1 = true := code_word (m := ⟨1, 3⟩) (meth := k1m3) (c := k1c3) (by decide +kernel) rfl rfl rfl (by decide +kernel)
def codes1 : List Jvm.Cond := [Jvm.Cond.code x code maxLocals ret, Jvm.Cond.code ({ cls := "com/example/tacit/tacit/engine/Varints", name := "write", desc := "([BII)I" } : Jvm.MethodName) prog_44_method_3_code (4 : Nat) (Option.some Jvm.ClassFile.FieldType.int), Jvm.Cond.code ({ cls := "com/example/tacit/tacit/engine/VarintsWritePinLaw", name := "expectedSize", desc := "(I)I" } : Jvm.MethodName) method_3_code (1 : Nat) (Option.some Jvm.ClassFile.FieldType.int), Jvm.Cond.code ({ cls := "com/example/tacit/tacit/engine/VarintsWritePinLaw", name := "expected", desc := "(IIIIB)B" } : Jvm.MethodName) method_4_code (7 : Nat) (Option.some Jvm.ClassFile.FieldType.byte)]
set_option maxRecDepth 65536 in
theorem codes_eq : words1.filter isCode = codes1 := rfl
theorem w_codes : ∀ c ∈ words1.filter isCode, c.before args0 about1 = true := by
  rw [codes_eq]
  intro c hc
  simp only [codes1, List.mem_cons, List.not_mem_nil, or_false] at hc
  rcases hc with rfl | rfl | rfl | rfl
  · exact w_c0
  · exact w_c1
  · exact w_c2
  · exact w_c3
set_option maxRecDepth 65536 in
theorem w_t1 : words1.all (fun c => isCode c || c.before args0 about1) = true := by decide +kernel
theorem w_tables : (allAtoms (Jvm.Cond.code x code maxLocals ret :: tables_1)).before args0 about1 = true := by
  rw [allAtoms_all]
  show words1.all (fun c => c.before args0 about1) = true
  refine all_split ?_ w_codes
  rw [w_t1]
set_option maxRecDepth 65536 in
theorem w_case : (Jvm.Cond.and given_1 narrow_1).before args0 about1 = true := by decide +kernel
theorem w_applies : (headSpec (Jvm.Cond.code x code maxLocals ret :: tables_1) room_1).applies x e0.platform about1 = true :=
  (Spec.applies_iff w_frames).mpr ⟨w_running, w_runnable, w_alone, w_named, w_hears, w_ripe, w_room, w_tables⟩
theorem atStart : AtStart classFile x code maxLocals ret World_1 tables_1 room_1 Calls_1 rest_1 Pre_1 launch0 p0 e0 about1 theMethod args0 below0 :=
  ⟨lists_1, trivial, launch0.admits_env _ _ _, launch0.least_env, fairChoices_fair.cas, fairChoices_fair.clock, w_frames, w_args, w_heap, w_applies, trivial, trivial, w_case⟩
end start1
theorem witness_1 : WitnessClaimed_1 := ⟨start1.p0, start1.e0, start1.about1, start1.theMethod, start1.args0, start1.below0, start1.atStart⟩
end Jvm.Pilot.@@N@@
