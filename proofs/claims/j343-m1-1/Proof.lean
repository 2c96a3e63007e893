import JvmDerived
import JvmDerived.Pilot.@@N@@Statement
import JvmDerived.Pilot.@@N@@Code
set_option linter.unusedVariables false
set_option linter.unusedSimpArgs false
namespace Jvm.RoadKit
open Sem ClassFile Op Lib Jvm.Stand Jvm.Free Jvm.LawKit
section New
variable {p : Program} {l : Launch} {e : Env} {R : Room} {s : State} {m : MethodId} {args : Array Value} {below : List Frame} {meth : Method} {c : Code} {T : State} {locs : List Loc} {cells slots : Nat}
theorem retI (X : Stand p l e R s m args below meth c T locs cells slots) (hx : p.tables.exec = Jvm.exec) {pc : Nat} {Ls : Array Slot} {z : Int32} {rest : List Value} (hret : meth.sig.returnType = some .int) (hd : decode c.code pc = .ok (.ireturn, 1)) {fs : List Frame}
    (hl : ∀ (f : JFrame) (acts : List Action), f.method = m → f.locked = none → f.entered = [] → (doReturn e (T.setTop f) acts (some (.int z))).1 = T.setFrames fs) : Steps p.tables e below (T.setTop (mkF m pc Ls (.int z :: rest))) (T.setFrames fs) := by
  have hm' : T.vm.method? m = some meth := X.method'
  have hn : narrow .int (.int z) = .int z := rfl
  show Steps p.tables e below (T.setTop { method := m, pc := pc, locals := Ls, stack := _ :: rest, locked := none }) _
  jvm_step X.here [X.here.top, hx, hd, hm', hret, hn]
  first | (intro acts; rw [hl _ acts rfl rfl rfl]) | rw [hl _ _ rfl rfl rfl]
  exact Steps.refl _
end New
end Jvm.RoadKit
namespace Jvm.Pilot.@@N@@
open Jvm Jvm.ClassFile Sem Op Lib Jvm.Free Jvm.Stand Jvm.LawKit Jvm.RoadKit Bundle Jvm.Pilot.@@N@@.Jvm.D
section OwnKit
variable {p : Program} {l : Launch} {e : Env} {R : Room} {s : State} {m : MethodId} {args : Array Value} {below : List Frame} {meth : Method} {c : Code} {Z : State} {own nm : String} {bytes : ByteArray} {maxL : Nat} {rt : Option FieldType} {n0 : Nat} {h0 : Heap} {ws : List Addr} {Q : Option Value → Heap → Prop} {cells slots : Nat} {h : Heap} {pc pc' : Nat} {ls ls' : Array Slot} {st : List Value} {a0 : Array Value}
/-- what is fixed in a body -/
def Cx (p : Program) (s : State) (m : MethodId) (meth : Method) (c : Code) (Z : State) (own nm : String) (bytes : ByteArray) (maxL : Nat) (rt : Option FieldType) (n0 : Nat) (h0 : Heap) (ws : List Addr) : Prop :=
  (p.tables.exec = Jvm.exec ∧ c.code = bytes ∧ c.maxLocals = maxL ∧ s.vm.findClass own = some m.cls ∧ Z.Warmed39 s.vm) ∧ (meth.sig.returnType = rt ∧ meth.locks = false ∧ meth.name = nm ∧ n0 ≤ h0.size ∧ ∀ x ∈ ws, n0 ≤ x)
/-- from every state that stands here with the heap h at the frame g, the run returns and Q holds at the end -/
def G (p : Program) (l : Launch) (e : Env) (R : Room) (s : State) (m : MethodId) (args : Array Value) (below : List Frame) (meth : Method) (c : Code) (n0 : Nat) (h0 : Heap) (ws : List Addr) (Q : Option Value → Heap → Prop) (cells slots : Nat) (h : Heap) (g : JFrame) : Prop :=
  ∀ (T : State) (locs : List Loc) (k n : Nat), Stand p l e R s m args below meth c T locs k n → k ≤ cells → n ≤ slots → T.heap = h → Fr n0 locs → Keep h0 h ws →
    ∃ (U : State) (v : Option Value) (L : List Loc), Steps p.tables e below (T.setTop g) U ∧ U.status = .running ∧ Ended U below (.returned v) ∧ (Fr n0 L ∧ Keep h0 U.heap ws ∧ Q v U.heap) ∧ FrameEnd s (.returned v) U L R.cells R.slots
/-- the contract of a callee: called with these arguments at this heap it returns, writes old cells of ws alone, and Q holds -/
def Mt (l : Launch) (Z : State) (y : MethodName) (bytes : ByteArray) (maxL : Nat) (rt : Option FieldType) (cs : List Jvm.Cond) (rm : Room) (n0 : Nat) (as' : Array Value) (h : Heap) (ws : List Addr) (Q : Option Value → Heap → Prop) : Prop :=
  MetFree l y (head1 (Jvm.Cond.code y bytes maxL rt :: cs) rm) (fun a U => a = as' ∧ Z.Warmed39 U.vm ∧ U.heap = h) (fun _ _ _ _ _ => True) (fun _ U o U' => ∃ v L, o = .returned v ∧ (Fr n0 L ∧ Keep h U'.heap ws ∧ Q v U'.heap) ∧ FrameEnd U o U' L rm.cells rm.slots)
def RV (Q : Heap → Prop) : Option Value → Heap → Prop := fun v h => v = none ∧ Q h
def RI (Q : Int32 → Heap → Prop) : Option Value → Heap → Prop := fun v h => ∃ z : Int32, v = some (.int z) ∧ Q z h
def RJ (Q : Int64 → Heap → Prop) : Option Value → Heap → Prop := fun v h => ∃ z : Int64, v = some (.long z) ∧ Q z h
def RA (Q : Addr → Heap → Prop) : Option Value → Heap → Prop := fun v h => ∃ z : Addr, v = some (.ref z) ∧ Q z h
theorem G.mono {g : JFrame} {cells' slots' : Nat} (hc : cells ≤ cells') (hs : slots ≤ slots') (kk : G p l e R s m args below meth c n0 h0 ws Q cells' slots' h g) : G p l e R s m args below meth c n0 h0 ws Q cells slots h g := fun T locs k n X hk hn eT N K => kk T locs k n X (Nat.le_trans hk hc) (Nat.le_trans hn hs) eT N K
theorem G.stepX {g g' : JFrame} (stp : ∀ T locs k n t, Stand p l e R s m args below meth c T locs k n → T.heap = h → Steps p.tables e below (T.setTop g') t → Steps p.tables e below (T.setTop g) t) (kk : G p l e R s m args below meth c n0 h0 ws Q cells slots h g') : G p l e R s m args below meth c n0 h0 ws Q cells slots h g := fun T locs k n X hk hn eT N K => by
  obtain ⟨U, v, L, hs, r⟩ := kk T locs k n X hk hn eT N K
  exact ⟨U, v, L, stp T locs k n U X eT hs, r⟩
theorem G.stepT {g g' : JFrame} (stp : ∀ T locs k n, Stand p l e R s m args below meth c T locs k n → T.heap = h → ∃ T', Stand p l e R s m args below meth c T' locs k n ∧ T'.heap = h ∧ ∀ t, Steps p.tables e below (T'.setTop g') t → Steps p.tables e below (T.setTop g) t) (kk : G p l e R s m args below meth c n0 h0 ws Q cells slots h g') : G p l e R s m args below meth c n0 h0 ws Q cells slots h g := fun T locs k n X hk hn eT N K => by
  obtain ⟨T', X', e', stp'⟩ := stp T locs k n X eT
  obtain ⟨U, v, L, hs, r⟩ := kk T' locs k n X' hk hn e' N K
  exact ⟨U, v, L, stp' U hs, r⟩
theorem own_fr {a : Addr} (B : Cx p s m meth c Z own nm bytes maxL rt n0 h0 ws) (ha : a ∈ ws ∨ h0.size ≤ a) : n0 ≤ a := ha.elim (B.2.2.2.2.2 a) (Nat.le_trans B.2.2.2.2.1)
theorem G.wr {g g' : JFrame} {a : Addr} {sl : Nat} {v : Value} (B : Cx p s m meth c Z own nm bytes maxL rt n0 h0 ws) (ha : a ∈ ws ∨ h0.size ≤ a) (stp : ∀ T locs k n, Stand p l e R s m args below meth c T locs k n → T.heap = h → ∃ T' h', Stand p l e R s m args below meth c T' (locs ++ [⟨a, sl⟩]) k n ∧ T'.heap = h' ∧ Wr h h' a sl v ∧ ∀ t, Steps p.tables e below (T'.setTop g') t → Steps p.tables e below (T.setTop g) t) (kk : ∀ h', Wr h h' a sl v → G p l e R s m args below meth c n0 h0 ws Q cells slots h' g') : G p l e R s m args below meth c n0 h0 ws Q cells slots h g := fun T locs k n X hk hn eT N K => by
  obtain ⟨T', h', X', e', W, stp'⟩ := stp T locs k n X eT
  obtain ⟨U, v, L, hs, r⟩ := kk h' W T' _ k n X' hk hn e' (Fr.snoc X' N (own_fr B ha)) (K.wr W ha)
  exact ⟨U, v, L, stp' U hs, r⟩
theorem G.out {g : JFrame} {v : Option Value} (B : Cx p s m meth c Z own nm bytes maxL rt n0 h0 ws) (hv : rt = none → v = none) (hc : cells ≤ R.cells) (hs : slots ≤ R.slots) (hQ : Q v h)
    (stp : ∀ T locs k n fs, Stand p l e R s m args below meth c T locs k n → (∀ (f : JFrame) (acts : List Action), f.method = m → f.locked = none → f.entered = [] → (doReturn e (T.setTop f) acts v).1 = T.setFrames fs) → Steps p.tables e below (T.setTop g) (T.setFrames fs)) : G p l e R s m args below meth c n0 h0 ws Q cells slots h g := fun T locs k n X hk hn eT N K => by
  obtain ⟨fs, hr, hrun, hended, hW, hsame⟩ := X.leave (v := v) (fun q => hv (B.2.1.symm.trans q)) B.2.2.1
  refine ⟨T.setFrames fs, v, locs, stp T locs k n fs X hr, hrun, hended, ⟨N, ?_, ?_⟩, ⟨_, rfl⟩, hW, hsame.mono (Nat.le_trans hk hc) (Nat.le_trans hn hs)⟩
  · show Keep h0 T.heap ws
    rw [eT]; exact K
  · show Q v T.heap
    rw [eT]; exact hQ
theorem Mt.intro {y : MethodName} {cs : List Jvm.Cond} {as' : Array Value} (hpl : plainFor y = true) (hn : n0 ≤ h0.size) (hws : ∀ x ∈ ws, n0 ≤ x)
    (body : ∀ p e s m below meth c, Cx p s m meth c Z y.cls y.name bytes maxL rt n0 h0 ws → G p l e R s m as' below meth c n0 h0 ws Q 0 0 h0 (entryFrame m as' maxL)) : Mt l Z y bytes maxL rt cs R n0 as' h0 ws Q := by
  refine MetFree.of_bodySF hpl hisR ?_
  intro p e s m args below meth c s₁ Bd hml0 hP hK
  obtain ⟨rfl, hZ, hh⟩ := hP
  have B : Cx p s m meth c Z y.cls y.name bytes maxL rt n0 h0 ws := ⟨⟨Bd.exec, Bd.bytes, hml0, findClass_of_methodNamed Bd.named, hZ⟩, Bd.returns, Bd.notSynchronized, (name_of_methodNamed Bd.named Bd.method).1, hn, hws⟩
  have X0 : Stand p l e R s m args below meth c s₁ [] 0 0 := Stand.of_body Bd
  have e0 : s₁.heap = h0 := by rw [← hh, Bd.state]; rfl
  obtain ⟨U, v, L, hs, h1, h2, h3, h4⟩ := body p e s m below meth c B s₁ [] 0 0 X0 (Nat.le_refl _) (Nat.le_refl _) e0 (Fr.nil n0) (Keep.refl _ _)
  exact ⟨U, _, hs, h1, h2, v, L, rfl, h3, h4⟩
theorem G.entry {g g' : JFrame} (q : g = g') (kk : G p l e R s m args below meth c n0 h0 ws Q cells slots h g') : G p l e R s m args below meth c n0 h0 ws Q cells slots h g := q ▸ kk
theorem G.iloadN {k : Fin 4} {v : Int32} (B : Cx p s m meth c Z own nm bytes maxL rt n0 h0 ws) (hd : decode bytes pc = .ok (.iload_n k, 1)) (hl : ls[k.val]? = some (.val (.int v))) (hp : pc + 1 = pc') (kk : G p l e R s m args below meth c n0 h0 ws Q cells slots h (mkF m pc' ls (.int v :: st))) : G p l e R s m args below meth c n0 h0 ws Q cells slots h (mkF m pc ls st) := by
  subst hp
  exact G.stepX (fun T locs k n t X _ q => XS.iloadN X.here B.1.1 rfl (hb B.1.2.1 hd) hl q) kk
theorem G.iload {k : Nat} {v : Int32} (B : Cx p s m meth c Z own nm bytes maxL rt n0 h0 ws) (hd : decode bytes pc = .ok (.iload k, 2)) (hl : ls[k]? = some (.val (.int v))) (hp : pc + 2 = pc') (kk : G p l e R s m args below meth c n0 h0 ws Q cells slots h (mkF m pc' ls (.int v :: st))) : G p l e R s m args below meth c n0 h0 ws Q cells slots h (mkF m pc ls st) := by
  subst hp
  exact G.stepX (fun T locs k n t X _ q => XS.iload X.here B.1.1 rfl (hb B.1.2.1 hd) hl q) kk
theorem G.lloadN {k : Fin 4} {v : Int64} (B : Cx p s m meth c Z own nm bytes maxL rt n0 h0 ws) (hd : decode bytes pc = .ok (.lload_n k, 1)) (hl : ls[k.val]? = some (.val (.long v))) (hp : pc + 1 = pc') (kk : G p l e R s m args below meth c n0 h0 ws Q cells slots h (mkF m pc' ls (.long v :: st))) : G p l e R s m args below meth c n0 h0 ws Q cells slots h (mkF m pc ls st) := by
  subst hp
  exact G.stepX (fun T locs k n t X _ q => XS.lloadN X.here B.1.1 rfl (hb B.1.2.1 hd) hl q) kk
theorem G.lload {k : Nat} {v : Int64} (B : Cx p s m meth c Z own nm bytes maxL rt n0 h0 ws) (hd : decode bytes pc = .ok (.lload k, 2)) (hl : ls[k]? = some (.val (.long v))) (hp : pc + 2 = pc') (kk : G p l e R s m args below meth c n0 h0 ws Q cells slots h (mkF m pc' ls (.long v :: st))) : G p l e R s m args below meth c n0 h0 ws Q cells slots h (mkF m pc ls st) := by
  subst hp
  exact G.stepX (fun T locs k n t X _ q => XS.lload X.here B.1.1 rfl (hb B.1.2.1 hd) hl q) kk
theorem G.aloadN {k : Fin 4} {v : Value} (B : Cx p s m meth c Z own nm bytes maxL rt n0 h0 ws) (hd : decode bytes pc = .ok (.aload_n k, 1)) (hl : ls[k.val]? = some (.val v)) (hv : v.isRef = true) (hp : pc + 1 = pc') (kk : G p l e R s m args below meth c n0 h0 ws Q cells slots h (mkF m pc' ls (v :: st))) : G p l e R s m args below meth c n0 h0 ws Q cells slots h (mkF m pc ls st) := by
  subst hp
  exact G.stepX (fun T locs k n t X _ q => XS.aloadN X.here B.1.1 rfl (hb B.1.2.1 hd) hl hv q) kk
theorem G.aload {k : Nat} {v : Value} (B : Cx p s m meth c Z own nm bytes maxL rt n0 h0 ws) (hd : decode bytes pc = .ok (.aload k, 2)) (hl : ls[k]? = some (.val v)) (hv : v.isRef = true) (hp : pc + 2 = pc') (kk : G p l e R s m args below meth c n0 h0 ws Q cells slots h (mkF m pc' ls (v :: st))) : G p l e R s m args below meth c n0 h0 ws Q cells slots h (mkF m pc ls st) := by
  subst hp
  exact G.stepX (fun T locs k n t X _ q => XS.aload X.here B.1.1 rfl (hb B.1.2.1 hd) hl hv q) kk
theorem G.istoreN {k : Fin 4} {v : Int32} (B : Cx p s m meth c Z own nm bytes maxL rt n0 h0 ws) (hd : decode bytes pc = .ok (.istore_n k, 1)) (hl : storeLocals ls k.val (.int v) = some ls') (hp : pc + 1 = pc') (kk : G p l e R s m args below meth c n0 h0 ws Q cells slots h (mkF m pc' ls' st)) : G p l e R s m args below meth c n0 h0 ws Q cells slots h (mkF m pc ls (.int v :: st)) := by
  subst hp
  exact G.stepX (fun T locs k n t X _ q => XS.istoreN X.here B.1.1 rfl (hb B.1.2.1 hd) rfl hl q) kk
theorem G.istore {k : Nat} {v : Int32} (B : Cx p s m meth c Z own nm bytes maxL rt n0 h0 ws) (hd : decode bytes pc = .ok (.istore k, 2)) (hl : storeLocals ls k (.int v) = some ls') (hp : pc + 2 = pc') (kk : G p l e R s m args below meth c n0 h0 ws Q cells slots h (mkF m pc' ls' st)) : G p l e R s m args below meth c n0 h0 ws Q cells slots h (mkF m pc ls (.int v :: st)) := by
  subst hp
  exact G.stepX (fun T locs k n t X _ q => XS.istore X.here B.1.1 rfl (hb B.1.2.1 hd) rfl hl q) kk
theorem G.lstoreN {k : Fin 4} {v : Int64} (B : Cx p s m meth c Z own nm bytes maxL rt n0 h0 ws) (hd : decode bytes pc = .ok (.lstore_n k, 1)) (hl : storeLocals ls k.val (.long v) = some ls') (hp : pc + 1 = pc') (kk : G p l e R s m args below meth c n0 h0 ws Q cells slots h (mkF m pc' ls' st)) : G p l e R s m args below meth c n0 h0 ws Q cells slots h (mkF m pc ls (.long v :: st)) := by
  subst hp
  exact G.stepX (fun T locs k n t X _ q => XS.lstoreN X.here B.1.1 rfl (hb B.1.2.1 hd) rfl hl q) kk
theorem G.lstore {k : Nat} {v : Int64} (B : Cx p s m meth c Z own nm bytes maxL rt n0 h0 ws) (hd : decode bytes pc = .ok (.lstore k, 2)) (hl : storeLocals ls k (.long v) = some ls') (hp : pc + 2 = pc') (kk : G p l e R s m args below meth c n0 h0 ws Q cells slots h (mkF m pc' ls' st)) : G p l e R s m args below meth c n0 h0 ws Q cells slots h (mkF m pc ls (.long v :: st)) := by
  subst hp
  exact G.stepX (fun T locs k n t X _ q => XS.lstore X.here B.1.1 rfl (hb B.1.2.1 hd) rfl hl q) kk
theorem G.astoreN {k : Fin 4} {v : Value} (B : Cx p s m meth c Z own nm bytes maxL rt n0 h0 ws) (hd : decode bytes pc = .ok (.astore_n k, 1)) (hv : v.isRef = true) (hl : storeLocals ls k.val v = some ls') (hp : pc + 1 = pc') (kk : G p l e R s m args below meth c n0 h0 ws Q cells slots h (mkF m pc' ls' st)) : G p l e R s m args below meth c n0 h0 ws Q cells slots h (mkF m pc ls (v :: st)) := by
  subst hp
  exact G.stepX (fun T locs k n t X _ q => XS.astoreN X.here B.1.1 rfl (hb B.1.2.1 hd) rfl hv hl q) kk
theorem G.astore {k : Nat} {v : Value} (B : Cx p s m meth c Z own nm bytes maxL rt n0 h0 ws) (hd : decode bytes pc = .ok (.astore k, 2)) (hv : v.isRef = true) (hl : storeLocals ls k v = some ls') (hp : pc + 2 = pc') (kk : G p l e R s m args below meth c n0 h0 ws Q cells slots h (mkF m pc' ls' st)) : G p l e R s m args below meth c n0 h0 ws Q cells slots h (mkF m pc ls (v :: st)) := by
  subst hp
  exact G.stepX (fun T locs k n t X _ q => XS.astore X.here B.1.1 rfl (hb B.1.2.1 hd) rfl hv hl q) kk
theorem G.iconst {i : Int} {z : Int32} (B : Cx p s m meth c Z own nm bytes maxL rt n0 h0 ws) (hd : decode bytes pc = .ok (.iconst i, 1)) (hz : Int32.ofInt i = z) (hp : pc + 1 = pc') (kk : G p l e R s m args below meth c n0 h0 ws Q cells slots h (mkF m pc' ls (.int z :: st))) : G p l e R s m args below meth c n0 h0 ws Q cells slots h (mkF m pc ls st) := by
  subst hp hz
  exact G.stepX (fun T locs k n t X _ q => XS.iconst X.here B.1.1 rfl (hb B.1.2.1 hd) q) kk
theorem G.bipush {i : Int} {z : Int32} (B : Cx p s m meth c Z own nm bytes maxL rt n0 h0 ws) (hd : decode bytes pc = .ok (.bipush i, 2)) (hz : (Int8.ofInt i).toInt32 = z) (hp : pc + 2 = pc') (kk : G p l e R s m args below meth c n0 h0 ws Q cells slots h (mkF m pc' ls (.int z :: st))) : G p l e R s m args below meth c n0 h0 ws Q cells slots h (mkF m pc ls st) := by
  subst hp hz
  exact G.stepX (fun T locs k n t X _ q => XS.bipush X.here B.1.1 rfl (hb B.1.2.1 hd) q) kk
theorem G.sipush {i : Int} {z : Int32} (B : Cx p s m meth c Z own nm bytes maxL rt n0 h0 ws) (hd : decode bytes pc = .ok (.sipush i, 3)) (hz : (Int16.ofInt i).toInt32 = z) (hp : pc + 3 = pc') (kk : G p l e R s m args below meth c n0 h0 ws Q cells slots h (mkF m pc' ls (.int z :: st))) : G p l e R s m args below meth c n0 h0 ws Q cells slots h (mkF m pc ls st) := by
  subst hp hz
  exact G.stepX (fun T locs k n t X _ q => XS.sipush X.here B.1.1 rfl (hb B.1.2.1 hd) q) kk
theorem G.lconst {i : Fin 2} {z : Int64} (B : Cx p s m meth c Z own nm bytes maxL rt n0 h0 ws) (hd : decode bytes pc = .ok (.lconst i, 1)) (hz : Int64.ofNat i = z) (hp : pc + 1 = pc') (kk : G p l e R s m args below meth c n0 h0 ws Q cells slots h (mkF m pc' ls (.long z :: st))) : G p l e R s m args below meth c n0 h0 ws Q cells slots h (mkF m pc ls st) := by
  subst hp hz
  exact G.stepX (fun T locs k n t X _ q => XS.lconst X.here B.1.1 rfl (hb B.1.2.1 hd) q) kk
theorem G.aconstNull (B : Cx p s m meth c Z own nm bytes maxL rt n0 h0 ws) (hd : decode bytes pc = .ok (.aconst_null, 1)) (hp : pc + 1 = pc') (kk : G p l e R s m args below meth c n0 h0 ws Q cells slots h (mkF m pc' ls (.null :: st))) : G p l e R s m args below meth c n0 h0 ws Q cells slots h (mkF m pc ls st) := by
  subst hp
  exact G.stepX (fun T locs k n t X _ q => XS.aconstNull X.here B.1.1 rfl (hb B.1.2.1 hd) q) kk
theorem G.iadd {x y : Int32} (B : Cx p s m meth c Z own nm bytes maxL rt n0 h0 ws) (hd : decode bytes pc = .ok (.iadd, 1)) (hp : pc + 1 = pc') (kk : G p l e R s m args below meth c n0 h0 ws Q cells slots h (mkF m pc' ls (.int (x + y) :: st))) : G p l e R s m args below meth c n0 h0 ws Q cells slots h (mkF m pc ls (.int y :: .int x :: st)) := by
  subst hp
  exact G.stepX (fun T locs k n t X _ q => XS.iadd X.here B.1.1 rfl (hb B.1.2.1 hd) rfl q) kk
theorem G.ladd {x y : Int64} (B : Cx p s m meth c Z own nm bytes maxL rt n0 h0 ws) (hd : decode bytes pc = .ok (.ladd, 1)) (hp : pc + 1 = pc') (kk : G p l e R s m args below meth c n0 h0 ws Q cells slots h (mkF m pc' ls (.long (x + y) :: st))) : G p l e R s m args below meth c n0 h0 ws Q cells slots h (mkF m pc ls (.long y :: .long x :: st)) := by
  subst hp
  exact G.stepX (fun T locs k n t X _ q => XS.ladd X.here B.1.1 rfl (hb B.1.2.1 hd) rfl q) kk
theorem G.isub {x y : Int32} (B : Cx p s m meth c Z own nm bytes maxL rt n0 h0 ws) (hd : decode bytes pc = .ok (.isub, 1)) (hp : pc + 1 = pc') (kk : G p l e R s m args below meth c n0 h0 ws Q cells slots h (mkF m pc' ls (.int (x - y) :: st))) : G p l e R s m args below meth c n0 h0 ws Q cells slots h (mkF m pc ls (.int y :: .int x :: st)) := by
  subst hp
  exact G.stepX (fun T locs k n t X _ q => XS.isub X.here B.1.1 rfl (hb B.1.2.1 hd) rfl q) kk
theorem G.lsub {x y : Int64} (B : Cx p s m meth c Z own nm bytes maxL rt n0 h0 ws) (hd : decode bytes pc = .ok (.lsub, 1)) (hp : pc + 1 = pc') (kk : G p l e R s m args below meth c n0 h0 ws Q cells slots h (mkF m pc' ls (.long (x - y) :: st))) : G p l e R s m args below meth c n0 h0 ws Q cells slots h (mkF m pc ls (.long y :: .long x :: st)) := by
  subst hp
  exact G.stepX (fun T locs k n t X _ q => XS.lsub X.here B.1.1 rfl (hb B.1.2.1 hd) rfl q) kk
theorem G.imul {x y : Int32} (B : Cx p s m meth c Z own nm bytes maxL rt n0 h0 ws) (hd : decode bytes pc = .ok (.imul, 1)) (hp : pc + 1 = pc') (kk : G p l e R s m args below meth c n0 h0 ws Q cells slots h (mkF m pc' ls (.int (x * y) :: st))) : G p l e R s m args below meth c n0 h0 ws Q cells slots h (mkF m pc ls (.int y :: .int x :: st)) := by
  subst hp
  exact G.stepX (fun T locs k n t X _ q => XS.imul X.here B.1.1 rfl (hb B.1.2.1 hd) rfl q) kk
theorem G.lmul {x y : Int64} (B : Cx p s m meth c Z own nm bytes maxL rt n0 h0 ws) (hd : decode bytes pc = .ok (.lmul, 1)) (hp : pc + 1 = pc') (kk : G p l e R s m args below meth c n0 h0 ws Q cells slots h (mkF m pc' ls (.long (x * y) :: st))) : G p l e R s m args below meth c n0 h0 ws Q cells slots h (mkF m pc ls (.long y :: .long x :: st)) := by
  subst hp
  exact G.stepX (fun T locs k n t X _ q => XS.lmul X.here B.1.1 rfl (hb B.1.2.1 hd) rfl q) kk
theorem G.iand {x y : Int32} (B : Cx p s m meth c Z own nm bytes maxL rt n0 h0 ws) (hd : decode bytes pc = .ok (.iand, 1)) (hp : pc + 1 = pc') (kk : G p l e R s m args below meth c n0 h0 ws Q cells slots h (mkF m pc' ls (.int (x &&& y) :: st))) : G p l e R s m args below meth c n0 h0 ws Q cells slots h (mkF m pc ls (.int y :: .int x :: st)) := by
  subst hp
  exact G.stepX (fun T locs k n t X _ q => XS.iand X.here B.1.1 rfl (hb B.1.2.1 hd) rfl q) kk
theorem G.land {x y : Int64} (B : Cx p s m meth c Z own nm bytes maxL rt n0 h0 ws) (hd : decode bytes pc = .ok (.land, 1)) (hp : pc + 1 = pc') (kk : G p l e R s m args below meth c n0 h0 ws Q cells slots h (mkF m pc' ls (.long (x &&& y) :: st))) : G p l e R s m args below meth c n0 h0 ws Q cells slots h (mkF m pc ls (.long y :: .long x :: st)) := by
  subst hp
  exact G.stepX (fun T locs k n t X _ q => XS.land X.here B.1.1 rfl (hb B.1.2.1 hd) rfl q) kk
theorem G.ior {x y : Int32} (B : Cx p s m meth c Z own nm bytes maxL rt n0 h0 ws) (hd : decode bytes pc = .ok (.ior, 1)) (hp : pc + 1 = pc') (kk : G p l e R s m args below meth c n0 h0 ws Q cells slots h (mkF m pc' ls (.int (x ||| y) :: st))) : G p l e R s m args below meth c n0 h0 ws Q cells slots h (mkF m pc ls (.int y :: .int x :: st)) := by
  subst hp
  exact G.stepX (fun T locs k n t X _ q => XS.ior X.here B.1.1 rfl (hb B.1.2.1 hd) rfl q) kk
theorem G.lor {x y : Int64} (B : Cx p s m meth c Z own nm bytes maxL rt n0 h0 ws) (hd : decode bytes pc = .ok (.lor, 1)) (hp : pc + 1 = pc') (kk : G p l e R s m args below meth c n0 h0 ws Q cells slots h (mkF m pc' ls (.long (x ||| y) :: st))) : G p l e R s m args below meth c n0 h0 ws Q cells slots h (mkF m pc ls (.long y :: .long x :: st)) := by
  subst hp
  exact G.stepX (fun T locs k n t X _ q => XS.lor X.here B.1.1 rfl (hb B.1.2.1 hd) rfl q) kk
theorem G.ixor {x y : Int32} (B : Cx p s m meth c Z own nm bytes maxL rt n0 h0 ws) (hd : decode bytes pc = .ok (.ixor, 1)) (hp : pc + 1 = pc') (kk : G p l e R s m args below meth c n0 h0 ws Q cells slots h (mkF m pc' ls (.int (x ^^^ y) :: st))) : G p l e R s m args below meth c n0 h0 ws Q cells slots h (mkF m pc ls (.int y :: .int x :: st)) := by
  subst hp
  exact G.stepX (fun T locs k n t X _ q => XS.ixor X.here B.1.1 rfl (hb B.1.2.1 hd) rfl q) kk
theorem G.lxor {x y : Int64} (B : Cx p s m meth c Z own nm bytes maxL rt n0 h0 ws) (hd : decode bytes pc = .ok (.lxor, 1)) (hp : pc + 1 = pc') (kk : G p l e R s m args below meth c n0 h0 ws Q cells slots h (mkF m pc' ls (.long (x ^^^ y) :: st))) : G p l e R s m args below meth c n0 h0 ws Q cells slots h (mkF m pc ls (.long y :: .long x :: st)) := by
  subst hp
  exact G.stepX (fun T locs k n t X _ q => XS.lxor X.here B.1.1 rfl (hb B.1.2.1 hd) rfl q) kk
theorem G.idiv {x y : Int32} (B : Cx p s m meth c Z own nm bytes maxL rt n0 h0 ws) (hd : decode bytes pc = .ok (.idiv, 1)) (hy : y ≠ 0) (hp : pc + 1 = pc') (kk : G p l e R s m args below meth c n0 h0 ws Q cells slots h (mkF m pc' ls (.int (x / y) :: st))) : G p l e R s m args below meth c n0 h0 ws Q cells slots h (mkF m pc ls (.int y :: .int x :: st)) := by
  subst hp
  exact G.stepX (fun T locs k n t X _ q => XS.idiv X.here B.1.1 rfl (hb B.1.2.1 hd) rfl hy q) kk
theorem G.irem {x y : Int32} (B : Cx p s m meth c Z own nm bytes maxL rt n0 h0 ws) (hd : decode bytes pc = .ok (.irem, 1)) (hy : y ≠ 0) (hp : pc + 1 = pc') (kk : G p l e R s m args below meth c n0 h0 ws Q cells slots h (mkF m pc' ls (.int (x % y) :: st))) : G p l e R s m args below meth c n0 h0 ws Q cells slots h (mkF m pc ls (.int y :: .int x :: st)) := by
  subst hp
  exact G.stepX (fun T locs k n t X _ q => Jvm.RoadKit.iremM X B.1.1 rfl (hb B.1.2.1 hd) rfl hy q) kk
theorem G.ldiv {x y : Int64} (B : Cx p s m meth c Z own nm bytes maxL rt n0 h0 ws) (hd : decode bytes pc = .ok (.ldiv, 1)) (hy : y ≠ 0) (hp : pc + 1 = pc') (kk : G p l e R s m args below meth c n0 h0 ws Q cells slots h (mkF m pc' ls (.long (x / y) :: st))) : G p l e R s m args below meth c n0 h0 ws Q cells slots h (mkF m pc ls (.long y :: .long x :: st)) := by
  subst hp
  exact G.stepX (fun T locs k n t X _ q => XS.ldiv X.here B.1.1 rfl (hb B.1.2.1 hd) rfl hy q) kk
theorem G.lrem {x y : Int64} (B : Cx p s m meth c Z own nm bytes maxL rt n0 h0 ws) (hd : decode bytes pc = .ok (.lrem, 1)) (hy : y ≠ 0) (hp : pc + 1 = pc') (kk : G p l e R s m args below meth c n0 h0 ws Q cells slots h (mkF m pc' ls (.long (x % y) :: st))) : G p l e R s m args below meth c n0 h0 ws Q cells slots h (mkF m pc ls (.long y :: .long x :: st)) := by
  subst hp
  rw [← lrem_mod] at kk
  exact G.stepX (fun T locs k n t X _ q => XS.lrem X.here B.1.1 rfl (hb B.1.2.1 hd) rfl hy q) kk
theorem G.ishl {x y : Int32} (B : Cx p s m meth c Z own nm bytes maxL rt n0 h0 ws) (hd : decode bytes pc = .ok (.ishl, 1)) (hp : pc + 1 = pc') (kk : G p l e R s m args below meth c n0 h0 ws Q cells slots h (mkF m pc' ls (.int (x <<< (y &&& 31)) :: st))) : G p l e R s m args below meth c n0 h0 ws Q cells slots h (mkF m pc ls (.int y :: .int x :: st)) := by
  subst hp
  exact G.stepX (fun T locs k n t X _ q => XS.ishl X.here B.1.1 rfl (hb B.1.2.1 hd) rfl q) kk
theorem G.ishr {x y : Int32} (B : Cx p s m meth c Z own nm bytes maxL rt n0 h0 ws) (hd : decode bytes pc = .ok (.ishr, 1)) (hp : pc + 1 = pc') (kk : G p l e R s m args below meth c n0 h0 ws Q cells slots h (mkF m pc' ls (.int (x >>> (y &&& 31)) :: st))) : G p l e R s m args below meth c n0 h0 ws Q cells slots h (mkF m pc ls (.int y :: .int x :: st)) := by
  subst hp
  exact G.stepX (fun T locs k n t X _ q => XS.ishr X.here B.1.1 rfl (hb B.1.2.1 hd) rfl q) kk
theorem G.iushr {x y : Int32} (B : Cx p s m meth c Z own nm bytes maxL rt n0 h0 ws) (hd : decode bytes pc = .ok (.iushr, 1)) (hp : pc + 1 = pc') (kk : G p l e R s m args below meth c n0 h0 ws Q cells slots h (mkF m pc' ls (.int ((x.toUInt32 >>> (y &&& 31).toUInt32).toInt32) :: st))) : G p l e R s m args below meth c n0 h0 ws Q cells slots h (mkF m pc ls (.int y :: .int x :: st)) := by
  subst hp
  exact G.stepX (fun T locs k n t X _ q => XS.iushr X.here B.1.1 rfl (hb B.1.2.1 hd) rfl q) kk
theorem G.lshl {x : Int64} {y : Int32} (B : Cx p s m meth c Z own nm bytes maxL rt n0 h0 ws) (hd : decode bytes pc = .ok (.lshl, 1)) (hp : pc + 1 = pc') (kk : G p l e R s m args below meth c n0 h0 ws Q cells slots h (mkF m pc' ls (.long (x <<< (y &&& 0x3f).toInt64) :: st))) : G p l e R s m args below meth c n0 h0 ws Q cells slots h (mkF m pc ls (.int y :: .long x :: st)) := by
  subst hp
  exact G.stepX (fun T locs k n t X _ q => XS.lshl X.here B.1.1 rfl (hb B.1.2.1 hd) rfl q) kk
theorem G.lshr {x : Int64} {y : Int32} (B : Cx p s m meth c Z own nm bytes maxL rt n0 h0 ws) (hd : decode bytes pc = .ok (.lshr, 1)) (hp : pc + 1 = pc') (kk : G p l e R s m args below meth c n0 h0 ws Q cells slots h (mkF m pc' ls (.long (x >>> (y &&& 0x3f).toInt64) :: st))) : G p l e R s m args below meth c n0 h0 ws Q cells slots h (mkF m pc ls (.int y :: .long x :: st)) := by
  subst hp
  exact G.stepX (fun T locs k n t X _ q => XS.lshr X.here B.1.1 rfl (hb B.1.2.1 hd) rfl q) kk
theorem G.lushr {x : Int64} {y : Int32} (B : Cx p s m meth c Z own nm bytes maxL rt n0 h0 ws) (hd : decode bytes pc = .ok (.lushr, 1)) (hp : pc + 1 = pc') (kk : G p l e R s m args below meth c n0 h0 ws Q cells slots h (mkF m pc' ls (.long ((x.toUInt64 >>> (y &&& 0x3f).toInt64.toUInt64).toInt64) :: st))) : G p l e R s m args below meth c n0 h0 ws Q cells slots h (mkF m pc ls (.int y :: .long x :: st)) := by
  subst hp
  exact G.stepX (fun T locs k n t X _ q => XS.lushr X.here B.1.1 rfl (hb B.1.2.1 hd) rfl q) kk
theorem G.ineg {x : Int32} (B : Cx p s m meth c Z own nm bytes maxL rt n0 h0 ws) (hd : decode bytes pc = .ok (.ineg, 1)) (hp : pc + 1 = pc') (kk : G p l e R s m args below meth c n0 h0 ws Q cells slots h (mkF m pc' ls (.int (-x) :: st))) : G p l e R s m args below meth c n0 h0 ws Q cells slots h (mkF m pc ls (.int x :: st)) := by
  subst hp
  exact G.stepX (fun T locs k n t X _ q => XS.ineg X.here B.1.1 rfl (hb B.1.2.1 hd) rfl q) kk
theorem G.lneg {x : Int64} (B : Cx p s m meth c Z own nm bytes maxL rt n0 h0 ws) (hd : decode bytes pc = .ok (.lneg, 1)) (hp : pc + 1 = pc') (kk : G p l e R s m args below meth c n0 h0 ws Q cells slots h (mkF m pc' ls (.long (-x) :: st))) : G p l e R s m args below meth c n0 h0 ws Q cells slots h (mkF m pc ls (.long x :: st)) := by
  subst hp
  exact G.stepX (fun T locs k n t X _ q => XS.lneg X.here B.1.1 rfl (hb B.1.2.1 hd) rfl q) kk
theorem G.i2l {x : Int32} (B : Cx p s m meth c Z own nm bytes maxL rt n0 h0 ws) (hd : decode bytes pc = .ok (.i2l, 1)) (hp : pc + 1 = pc') (kk : G p l e R s m args below meth c n0 h0 ws Q cells slots h (mkF m pc' ls (.long x.toInt64 :: st))) : G p l e R s m args below meth c n0 h0 ws Q cells slots h (mkF m pc ls (.int x :: st)) := by
  subst hp
  exact G.stepX (fun T locs k n t X _ q => XS.i2l X.here B.1.1 rfl (hb B.1.2.1 hd) rfl q) kk
theorem G.l2i {x : Int64} (B : Cx p s m meth c Z own nm bytes maxL rt n0 h0 ws) (hd : decode bytes pc = .ok (.l2i, 1)) (hp : pc + 1 = pc') (kk : G p l e R s m args below meth c n0 h0 ws Q cells slots h (mkF m pc' ls (.int x.toInt32 :: st))) : G p l e R s m args below meth c n0 h0 ws Q cells slots h (mkF m pc ls (.long x :: st)) := by
  subst hp
  exact G.stepX (fun T locs k n t X _ q => XS.l2i X.here B.1.1 rfl (hb B.1.2.1 hd) rfl q) kk
theorem G.i2b {x : Int32} (B : Cx p s m meth c Z own nm bytes maxL rt n0 h0 ws) (hd : decode bytes pc = .ok (.i2b, 1)) (hp : pc + 1 = pc') (kk : G p l e R s m args below meth c n0 h0 ws Q cells slots h (mkF m pc' ls (.int x.toInt8.toInt32 :: st))) : G p l e R s m args below meth c n0 h0 ws Q cells slots h (mkF m pc ls (.int x :: st)) := by
  subst hp
  exact G.stepX (fun T locs k n t X _ q => XS.i2b X.here B.1.1 rfl (hb B.1.2.1 hd) rfl q) kk
theorem G.i2s {x : Int32} (B : Cx p s m meth c Z own nm bytes maxL rt n0 h0 ws) (hd : decode bytes pc = .ok (.i2s, 1)) (hp : pc + 1 = pc') (kk : G p l e R s m args below meth c n0 h0 ws Q cells slots h (mkF m pc' ls (.int x.toInt16.toInt32 :: st))) : G p l e R s m args below meth c n0 h0 ws Q cells slots h (mkF m pc ls (.int x :: st)) := by
  subst hp
  exact G.stepX (fun T locs k n t X _ q => XS.i2s X.here B.1.1 rfl (hb B.1.2.1 hd) rfl q) kk
theorem G.i2c {x : Int32} (B : Cx p s m meth c Z own nm bytes maxL rt n0 h0 ws) (hd : decode bytes pc = .ok (.i2c, 1)) (hp : pc + 1 = pc') (kk : G p l e R s m args below meth c n0 h0 ws Q cells slots h (mkF m pc' ls (.int x.toUInt32.toUInt16.toUInt32.toInt32 :: st))) : G p l e R s m args below meth c n0 h0 ws Q cells slots h (mkF m pc ls (.int x :: st)) := by
  subst hp
  exact G.stepX (fun T locs k n t X _ q => XS.i2c X.here B.1.1 rfl (hb B.1.2.1 hd) rfl q) kk
theorem G.lcmp {x y : Int64} (B : Cx p s m meth c Z own nm bytes maxL rt n0 h0 ws) (hd : decode bytes pc = .ok (.lcmp, 1)) (hp : pc + 1 = pc') (kk : G p l e R s m args below meth c n0 h0 ws Q cells slots h (mkF m pc' ls (.int (lcmpW x y) :: st))) : G p l e R s m args below meth c n0 h0 ws Q cells slots h (mkF m pc ls (.long y :: .long x :: st)) := by
  subst hp
  exact G.stepX (fun T locs k n t X _ q => XS.lcmp X.here B.1.1 rfl (hb B.1.2.1 hd) rfl q) kk
theorem G.iinc {k : Nat} {cst : Int} {x z : Int32} (B : Cx p s m meth c Z own nm bytes maxL rt n0 h0 ws) (hd : decode bytes pc = .ok (.iinc k cst, 3)) (hl : ls[k]? = some (.val (.int x))) (hz : x + Int32.ofInt cst = z) (hl' : storeLocals ls k (.int z) = some ls') (hp : pc + 3 = pc') (kk : G p l e R s m args below meth c n0 h0 ws Q cells slots h (mkF m pc' ls' st)) : G p l e R s m args below meth c n0 h0 ws Q cells slots h (mkF m pc ls st) := by
  subst hp
  exact G.stepX (fun T locs k n t X _ q => XS.iinc X.here B.1.1 rfl (hb B.1.2.1 hd) hl (by rw [hz]; exact hl') q) kk
theorem G.dup {v : Value} (B : Cx p s m meth c Z own nm bytes maxL rt n0 h0 ws) (hd : decode bytes pc = .ok (.dup, 1)) (hc : v.category = 1) (hp : pc + 1 = pc') (kk : G p l e R s m args below meth c n0 h0 ws Q cells slots h (mkF m pc' ls (v :: v :: st))) : G p l e R s m args below meth c n0 h0 ws Q cells slots h (mkF m pc ls (v :: st)) := by
  subst hp
  exact G.stepX (fun T locs k n t X _ q => XS.dup X.here B.1.1 rfl (hb B.1.2.1 hd) rfl hc q) kk
theorem G.pop {v : Value} (B : Cx p s m meth c Z own nm bytes maxL rt n0 h0 ws) (hd : decode bytes pc = .ok (.pop, 1)) (hc : v.category = 1) (hp : pc + 1 = pc') (kk : G p l e R s m args below meth c n0 h0 ws Q cells slots h (mkF m pc' ls st)) : G p l e R s m args below meth c n0 h0 ws Q cells slots h (mkF m pc ls (v :: st)) := by
  subst hp
  exact G.stepX (fun T locs k n t X _ q => XS.pop X.here B.1.1 rfl (hb B.1.2.1 hd) rfl hc q) kk
theorem G.dupX1 {v w : Value} (B : Cx p s m meth c Z own nm bytes maxL rt n0 h0 ws) (hd : decode bytes pc = .ok (.dup_x1, 1)) (hc : v.category = 1) (hc' : w.category = 1) (hp : pc + 1 = pc') (kk : G p l e R s m args below meth c n0 h0 ws Q cells slots h (mkF m pc' ls (v :: w :: v :: st))) : G p l e R s m args below meth c n0 h0 ws Q cells slots h (mkF m pc ls (v :: w :: st)) := by
  subst hp
  exact G.stepX (fun T locs k n t X _ q => XS.dupX1 X.here B.1.1 rfl (hb B.1.2.1 hd) rfl hc hc' q) kk
theorem G.dup2 {v w : Value} (B : Cx p s m meth c Z own nm bytes maxL rt n0 h0 ws) (hd : decode bytes pc = .ok (.dup2, 1)) (hc : v.category = 1) (hc' : w.category = 1) (hp : pc + 1 = pc') (kk : G p l e R s m args below meth c n0 h0 ws Q cells slots h (mkF m pc' ls (v :: w :: v :: w :: st))) : G p l e R s m args below meth c n0 h0 ws Q cells slots h (mkF m pc ls (v :: w :: st)) := by
  subst hp
  exact G.stepX (fun T locs k n t X _ q => XT.dup2 X.here B.1.1 rfl (hb B.1.2.1 hd) rfl hc hc' q) kk
theorem G.goto {o : Int} (B : Cx p s m meth c Z own nm bytes maxL rt n0 h0 ws) (hd : decode bytes pc = .ok (.goto o, 3)) (ho : 0 ≤ (pc : Int) + o) (hp : ((pc : Int) + o).toNat = pc') (kk : G p l e R s m args below meth c n0 h0 ws Q cells slots h (mkF m pc' ls st)) : G p l e R s m args below meth c n0 h0 ws Q cells slots h (mkF m pc ls st) := by
  exact G.stepX (fun T locs k n t X _ q => XS.goto X.here B.1.1 rfl (pc0 := pc) (pc' := pc') rfl (hb B.1.2.1 hd) ho hp q) kk
theorem own_nlt {x y : Int32} (h : y.toInt ≤ x.toInt) : ¬ x < y := fun q => by rw [Int32.lt_iff_toInt_lt] at q; omega
theorem own_ylt {x y : Int32} (h : x.toInt < y.toInt) : x < y := Int32.lt_iff_toInt_lt.mpr h
theorem G.icmp_eq {x y : Int32} {o : Int} {pcT : Nat} (B : Cx p s m meth c Z own nm bytes maxL rt n0 h0 ws) (hd : decode bytes pc = .ok (.if_icmp .eq o, 3)) (ho : 0 ≤ (pc : Int) + o) (hT : ((pc : Int) + o).toNat = pcT) (hp : pc + 3 = pc') (k1 : x = y → G p l e R s m args below meth c n0 h0 ws Q cells slots h (mkF m pcT ls st)) (k2 : x ≠ y → G p l e R s m args below meth c n0 h0 ws Q cells slots h (mkF m pc' ls st)) : G p l e R s m args below meth c n0 h0 ws Q cells slots h (mkF m pc ls (.int y :: .int x :: st)) := by
  subst hp
  by_cases h : x = y
  · exact G.stepX (fun T locs k n t X _ q => XS.icmpYes X.here B.1.1 rfl (pc0 := pc) (pc' := pcT) rfl (hb B.1.2.1 hd) rfl (teq h).1 ho hT q) (k1 h)
  · exact G.stepX (fun T locs k n t X _ q => XS.icmpNo X.here B.1.1 rfl (hb B.1.2.1 hd) rfl (feq h).1 q) (k2 h)
theorem G.if_eq {x : Int32} {o : Int} {pcT : Nat} (B : Cx p s m meth c Z own nm bytes maxL rt n0 h0 ws) (hd : decode bytes pc = .ok (.ifCond .eq o, 3)) (ho : 0 ≤ (pc : Int) + o) (hT : ((pc : Int) + o).toNat = pcT) (hp : pc + 3 = pc') (k1 : x = 0 → G p l e R s m args below meth c n0 h0 ws Q cells slots h (mkF m pcT ls st)) (k2 : x ≠ 0 → G p l e R s m args below meth c n0 h0 ws Q cells slots h (mkF m pc' ls st)) : G p l e R s m args below meth c n0 h0 ws Q cells slots h (mkF m pc ls (.int x :: st)) := by
  subst hp
  by_cases h : x = 0
  · exact G.stepX (fun T locs k n t X _ q => XS.ifYes X.here B.1.1 rfl (pc0 := pc) (pc' := pcT) rfl (hb B.1.2.1 hd) rfl ((if0 _ _).trans (teq h).1) ho hT q) (k1 h)
  · exact G.stepX (fun T locs k n t X _ q => XS.ifNo X.here B.1.1 rfl (hb B.1.2.1 hd) rfl ((if0 _ _).trans (feq h).1) q) (k2 h)
theorem G.lcmp_eq {x y : Int64} {o : Int} {pc1 pcT : Nat} (B : Cx p s m meth c Z own nm bytes maxL rt n0 h0 ws) (hd0 : decode bytes pc = .ok (.lcmp, 1)) (hp0 : pc + 1 = pc1) (hd : decode bytes pc1 = .ok (.ifCond .eq o, 3)) (ho : 0 ≤ (pc1 : Int) + o) (hT : ((pc1 : Int) + o).toNat = pcT) (hp : pc1 + 3 = pc') (k1 : x = y → G p l e R s m args below meth c n0 h0 ws Q cells slots h (mkF m pcT ls st)) (k2 : x ≠ y → G p l e R s m args below meth c n0 h0 ws Q cells slots h (mkF m pc' ls st)) : G p l e R s m args below meth c n0 h0 ws Q cells slots h (mkF m pc ls (.long y :: .long x :: st)) :=
  G.lcmp B hd0 hp0 (G.if_eq B hd ho hT hp (fun q => k1 ((lw_eq x y).mp q)) (fun q => k2 (fun r => q ((lw_eq x y).mpr r))))
theorem G.icmp_ne {x y : Int32} {o : Int} {pcT : Nat} (B : Cx p s m meth c Z own nm bytes maxL rt n0 h0 ws) (hd : decode bytes pc = .ok (.if_icmp .ne o, 3)) (ho : 0 ≤ (pc : Int) + o) (hT : ((pc : Int) + o).toNat = pcT) (hp : pc + 3 = pc') (k1 : x ≠ y → G p l e R s m args below meth c n0 h0 ws Q cells slots h (mkF m pcT ls st)) (k2 : x = y → G p l e R s m args below meth c n0 h0 ws Q cells slots h (mkF m pc' ls st)) : G p l e R s m args below meth c n0 h0 ws Q cells slots h (mkF m pc ls (.int y :: .int x :: st)) := by
  subst hp
  by_cases h : x ≠ y
  · exact G.stepX (fun T locs k n t X _ q => XS.icmpYes X.here B.1.1 rfl (pc0 := pc) (pc' := pcT) rfl (hb B.1.2.1 hd) rfl (feq h).2 ho hT q) (k1 h)
  · replace h : x = y := Decidable.of_not_not h
    exact G.stepX (fun T locs k n t X _ q => XS.icmpNo X.here B.1.1 rfl (hb B.1.2.1 hd) rfl (teq h).2 q) (k2 h)
theorem G.if_ne {x : Int32} {o : Int} {pcT : Nat} (B : Cx p s m meth c Z own nm bytes maxL rt n0 h0 ws) (hd : decode bytes pc = .ok (.ifCond .ne o, 3)) (ho : 0 ≤ (pc : Int) + o) (hT : ((pc : Int) + o).toNat = pcT) (hp : pc + 3 = pc') (k1 : x ≠ 0 → G p l e R s m args below meth c n0 h0 ws Q cells slots h (mkF m pcT ls st)) (k2 : x = 0 → G p l e R s m args below meth c n0 h0 ws Q cells slots h (mkF m pc' ls st)) : G p l e R s m args below meth c n0 h0 ws Q cells slots h (mkF m pc ls (.int x :: st)) := by
  subst hp
  by_cases h : x ≠ 0
  · exact G.stepX (fun T locs k n t X _ q => XS.ifYes X.here B.1.1 rfl (pc0 := pc) (pc' := pcT) rfl (hb B.1.2.1 hd) rfl ((if0 _ _).trans (feq h).2) ho hT q) (k1 h)
  · replace h : x = 0 := Decidable.of_not_not h
    exact G.stepX (fun T locs k n t X _ q => XS.ifNo X.here B.1.1 rfl (hb B.1.2.1 hd) rfl ((if0 _ _).trans (teq h).2) q) (k2 h)
theorem G.lcmp_ne {x y : Int64} {o : Int} {pc1 pcT : Nat} (B : Cx p s m meth c Z own nm bytes maxL rt n0 h0 ws) (hd0 : decode bytes pc = .ok (.lcmp, 1)) (hp0 : pc + 1 = pc1) (hd : decode bytes pc1 = .ok (.ifCond .ne o, 3)) (ho : 0 ≤ (pc1 : Int) + o) (hT : ((pc1 : Int) + o).toNat = pcT) (hp : pc1 + 3 = pc') (k1 : x ≠ y → G p l e R s m args below meth c n0 h0 ws Q cells slots h (mkF m pcT ls st)) (k2 : x = y → G p l e R s m args below meth c n0 h0 ws Q cells slots h (mkF m pc' ls st)) : G p l e R s m args below meth c n0 h0 ws Q cells slots h (mkF m pc ls (.long y :: .long x :: st)) :=
  G.lcmp B hd0 hp0 (G.if_ne B hd ho hT hp (fun q => k1 (fun r => q ((lw_eq x y).mpr r))) (fun q => k2 ((lw_eq x y).mp q)))
theorem G.icmp_lt {x y : Int32} {o : Int} {pcT : Nat} (B : Cx p s m meth c Z own nm bytes maxL rt n0 h0 ws) (hd : decode bytes pc = .ok (.if_icmp .lt o, 3)) (ho : 0 ≤ (pc : Int) + o) (hT : ((pc : Int) + o).toNat = pcT) (hp : pc + 3 = pc') (k1 : x.toInt < y.toInt → G p l e R s m args below meth c n0 h0 ws Q cells slots h (mkF m pcT ls st)) (k2 : y.toInt ≤ x.toInt → G p l e R s m args below meth c n0 h0 ws Q cells slots h (mkF m pc' ls st)) : G p l e R s m args below meth c n0 h0 ws Q cells slots h (mkF m pc ls (.int y :: .int x :: st)) := by
  subst hp
  by_cases h : x.toInt < y.toInt
  · exact G.stepX (fun T locs k n t X _ q => XS.icmpYes X.here B.1.1 rfl (pc0 := pc) (pc' := pcT) rfl (hb B.1.2.1 hd) rfl (tlt (own_ylt h)).1 ho hT q) (k1 h)
  · replace h := Int.not_lt.mp h
    exact G.stepX (fun T locs k n t X _ q => XS.icmpNo X.here B.1.1 rfl (hb B.1.2.1 hd) rfl (flt (own_nlt h)).1 q) (k2 h)
theorem G.if_lt {x : Int32} {o : Int} {pcT : Nat} (B : Cx p s m meth c Z own nm bytes maxL rt n0 h0 ws) (hd : decode bytes pc = .ok (.ifCond .lt o, 3)) (ho : 0 ≤ (pc : Int) + o) (hT : ((pc : Int) + o).toNat = pcT) (hp : pc + 3 = pc') (k1 : x.toInt < 0 → G p l e R s m args below meth c n0 h0 ws Q cells slots h (mkF m pcT ls st)) (k2 : 0 ≤ x.toInt → G p l e R s m args below meth c n0 h0 ws Q cells slots h (mkF m pc' ls st)) : G p l e R s m args below meth c n0 h0 ws Q cells slots h (mkF m pc ls (.int x :: st)) := by
  subst hp
  by_cases h : x.toInt < 0
  · exact G.stepX (fun T locs k n t X _ q => XS.ifYes X.here B.1.1 rfl (pc0 := pc) (pc' := pcT) rfl (hb B.1.2.1 hd) rfl ((if0 _ _).trans (tlt (own_ylt (y := 0) h)).1) ho hT q) (k1 h)
  · replace h := Int.not_lt.mp h
    exact G.stepX (fun T locs k n t X _ q => XS.ifNo X.here B.1.1 rfl (hb B.1.2.1 hd) rfl ((if0 _ _).trans (flt (own_nlt (y := 0) h)).1) q) (k2 h)
theorem G.lcmp_lt {x y : Int64} {o : Int} {pc1 pcT : Nat} (B : Cx p s m meth c Z own nm bytes maxL rt n0 h0 ws) (hd0 : decode bytes pc = .ok (.lcmp, 1)) (hp0 : pc + 1 = pc1) (hd : decode bytes pc1 = .ok (.ifCond .lt o, 3)) (ho : 0 ≤ (pc1 : Int) + o) (hT : ((pc1 : Int) + o).toNat = pcT) (hp : pc1 + 3 = pc') (k1 : x.toInt < y.toInt → G p l e R s m args below meth c n0 h0 ws Q cells slots h (mkF m pcT ls st)) (k2 : y.toInt ≤ x.toInt → G p l e R s m args below meth c n0 h0 ws Q cells slots h (mkF m pc' ls st)) : G p l e R s m args below meth c n0 h0 ws Q cells slots h (mkF m pc ls (.long y :: .long x :: st)) :=
  G.lcmp B hd0 hp0 (G.if_lt B hd ho hT hp (fun q => k1 (by have := c_lcmp x y; omega)) (fun q => k2 (by have := c_lcmp x y; omega)))
theorem G.icmp_ge {x y : Int32} {o : Int} {pcT : Nat} (B : Cx p s m meth c Z own nm bytes maxL rt n0 h0 ws) (hd : decode bytes pc = .ok (.if_icmp .ge o, 3)) (ho : 0 ≤ (pc : Int) + o) (hT : ((pc : Int) + o).toNat = pcT) (hp : pc + 3 = pc') (k1 : y.toInt ≤ x.toInt → G p l e R s m args below meth c n0 h0 ws Q cells slots h (mkF m pcT ls st)) (k2 : x.toInt < y.toInt → G p l e R s m args below meth c n0 h0 ws Q cells slots h (mkF m pc' ls st)) : G p l e R s m args below meth c n0 h0 ws Q cells slots h (mkF m pc ls (.int y :: .int x :: st)) := by
  subst hp
  by_cases h : y.toInt ≤ x.toInt
  · exact G.stepX (fun T locs k n t X _ q => XS.icmpYes X.here B.1.1 rfl (pc0 := pc) (pc' := pcT) rfl (hb B.1.2.1 hd) rfl (flt (own_nlt h)).2.1 ho hT q) (k1 h)
  · replace h := Int.not_le.mp h
    exact G.stepX (fun T locs k n t X _ q => XS.icmpNo X.here B.1.1 rfl (hb B.1.2.1 hd) rfl (tlt (own_ylt h)).2.1 q) (k2 h)
theorem G.if_ge {x : Int32} {o : Int} {pcT : Nat} (B : Cx p s m meth c Z own nm bytes maxL rt n0 h0 ws) (hd : decode bytes pc = .ok (.ifCond .ge o, 3)) (ho : 0 ≤ (pc : Int) + o) (hT : ((pc : Int) + o).toNat = pcT) (hp : pc + 3 = pc') (k1 : 0 ≤ x.toInt → G p l e R s m args below meth c n0 h0 ws Q cells slots h (mkF m pcT ls st)) (k2 : x.toInt < 0 → G p l e R s m args below meth c n0 h0 ws Q cells slots h (mkF m pc' ls st)) : G p l e R s m args below meth c n0 h0 ws Q cells slots h (mkF m pc ls (.int x :: st)) := by
  subst hp
  by_cases h : 0 ≤ x.toInt
  · exact G.stepX (fun T locs k n t X _ q => XS.ifYes X.here B.1.1 rfl (pc0 := pc) (pc' := pcT) rfl (hb B.1.2.1 hd) rfl ((if0 _ _).trans (flt (own_nlt (y := 0) h)).2.1) ho hT q) (k1 h)
  · replace h := Int.not_le.mp h
    exact G.stepX (fun T locs k n t X _ q => XS.ifNo X.here B.1.1 rfl (hb B.1.2.1 hd) rfl ((if0 _ _).trans (tlt (own_ylt (y := 0) h)).2.1) q) (k2 h)
theorem G.lcmp_ge {x y : Int64} {o : Int} {pc1 pcT : Nat} (B : Cx p s m meth c Z own nm bytes maxL rt n0 h0 ws) (hd0 : decode bytes pc = .ok (.lcmp, 1)) (hp0 : pc + 1 = pc1) (hd : decode bytes pc1 = .ok (.ifCond .ge o, 3)) (ho : 0 ≤ (pc1 : Int) + o) (hT : ((pc1 : Int) + o).toNat = pcT) (hp : pc1 + 3 = pc') (k1 : y.toInt ≤ x.toInt → G p l e R s m args below meth c n0 h0 ws Q cells slots h (mkF m pcT ls st)) (k2 : x.toInt < y.toInt → G p l e R s m args below meth c n0 h0 ws Q cells slots h (mkF m pc' ls st)) : G p l e R s m args below meth c n0 h0 ws Q cells slots h (mkF m pc ls (.long y :: .long x :: st)) :=
  G.lcmp B hd0 hp0 (G.if_ge B hd ho hT hp (fun q => k1 (by have := c_lcmp x y; omega)) (fun q => k2 (by have := c_lcmp x y; omega)))
theorem G.icmp_gt {x y : Int32} {o : Int} {pcT : Nat} (B : Cx p s m meth c Z own nm bytes maxL rt n0 h0 ws) (hd : decode bytes pc = .ok (.if_icmp .gt o, 3)) (ho : 0 ≤ (pc : Int) + o) (hT : ((pc : Int) + o).toNat = pcT) (hp : pc + 3 = pc') (k1 : y.toInt < x.toInt → G p l e R s m args below meth c n0 h0 ws Q cells slots h (mkF m pcT ls st)) (k2 : x.toInt ≤ y.toInt → G p l e R s m args below meth c n0 h0 ws Q cells slots h (mkF m pc' ls st)) : G p l e R s m args below meth c n0 h0 ws Q cells slots h (mkF m pc ls (.int y :: .int x :: st)) := by
  subst hp
  by_cases h : y.toInt < x.toInt
  · exact G.stepX (fun T locs k n t X _ q => XS.icmpYes X.here B.1.1 rfl (pc0 := pc) (pc' := pcT) rfl (hb B.1.2.1 hd) rfl (tlt (own_ylt h)).2.2.1 ho hT q) (k1 h)
  · replace h := Int.not_lt.mp h
    exact G.stepX (fun T locs k n t X _ q => XS.icmpNo X.here B.1.1 rfl (hb B.1.2.1 hd) rfl (flt (own_nlt h)).2.2.1 q) (k2 h)
theorem G.if_gt {x : Int32} {o : Int} {pcT : Nat} (B : Cx p s m meth c Z own nm bytes maxL rt n0 h0 ws) (hd : decode bytes pc = .ok (.ifCond .gt o, 3)) (ho : 0 ≤ (pc : Int) + o) (hT : ((pc : Int) + o).toNat = pcT) (hp : pc + 3 = pc') (k1 : 0 < x.toInt → G p l e R s m args below meth c n0 h0 ws Q cells slots h (mkF m pcT ls st)) (k2 : x.toInt ≤ 0 → G p l e R s m args below meth c n0 h0 ws Q cells slots h (mkF m pc' ls st)) : G p l e R s m args below meth c n0 h0 ws Q cells slots h (mkF m pc ls (.int x :: st)) := by
  subst hp
  by_cases h : 0 < x.toInt
  · exact G.stepX (fun T locs k n t X _ q => XS.ifYes X.here B.1.1 rfl (pc0 := pc) (pc' := pcT) rfl (hb B.1.2.1 hd) rfl ((if0 _ _).trans (tlt (own_ylt (x := 0) h)).2.2.1) ho hT q) (k1 h)
  · replace h := Int.not_lt.mp h
    exact G.stepX (fun T locs k n t X _ q => XS.ifNo X.here B.1.1 rfl (hb B.1.2.1 hd) rfl ((if0 _ _).trans (flt (own_nlt (x := 0) h)).2.2.1) q) (k2 h)
theorem G.lcmp_gt {x y : Int64} {o : Int} {pc1 pcT : Nat} (B : Cx p s m meth c Z own nm bytes maxL rt n0 h0 ws) (hd0 : decode bytes pc = .ok (.lcmp, 1)) (hp0 : pc + 1 = pc1) (hd : decode bytes pc1 = .ok (.ifCond .gt o, 3)) (ho : 0 ≤ (pc1 : Int) + o) (hT : ((pc1 : Int) + o).toNat = pcT) (hp : pc1 + 3 = pc') (k1 : y.toInt < x.toInt → G p l e R s m args below meth c n0 h0 ws Q cells slots h (mkF m pcT ls st)) (k2 : x.toInt ≤ y.toInt → G p l e R s m args below meth c n0 h0 ws Q cells slots h (mkF m pc' ls st)) : G p l e R s m args below meth c n0 h0 ws Q cells slots h (mkF m pc ls (.long y :: .long x :: st)) :=
  G.lcmp B hd0 hp0 (G.if_gt B hd ho hT hp (fun q => k1 (by have := c_lcmp x y; omega)) (fun q => k2 (by have := c_lcmp x y; omega)))
theorem G.icmp_le {x y : Int32} {o : Int} {pcT : Nat} (B : Cx p s m meth c Z own nm bytes maxL rt n0 h0 ws) (hd : decode bytes pc = .ok (.if_icmp .le o, 3)) (ho : 0 ≤ (pc : Int) + o) (hT : ((pc : Int) + o).toNat = pcT) (hp : pc + 3 = pc') (k1 : x.toInt ≤ y.toInt → G p l e R s m args below meth c n0 h0 ws Q cells slots h (mkF m pcT ls st)) (k2 : y.toInt < x.toInt → G p l e R s m args below meth c n0 h0 ws Q cells slots h (mkF m pc' ls st)) : G p l e R s m args below meth c n0 h0 ws Q cells slots h (mkF m pc ls (.int y :: .int x :: st)) := by
  subst hp
  by_cases h : x.toInt ≤ y.toInt
  · exact G.stepX (fun T locs k n t X _ q => XS.icmpYes X.here B.1.1 rfl (pc0 := pc) (pc' := pcT) rfl (hb B.1.2.1 hd) rfl (flt (own_nlt h)).2.2.2 ho hT q) (k1 h)
  · replace h := Int.not_le.mp h
    exact G.stepX (fun T locs k n t X _ q => XS.icmpNo X.here B.1.1 rfl (hb B.1.2.1 hd) rfl (tlt (own_ylt h)).2.2.2 q) (k2 h)
theorem G.if_le {x : Int32} {o : Int} {pcT : Nat} (B : Cx p s m meth c Z own nm bytes maxL rt n0 h0 ws) (hd : decode bytes pc = .ok (.ifCond .le o, 3)) (ho : 0 ≤ (pc : Int) + o) (hT : ((pc : Int) + o).toNat = pcT) (hp : pc + 3 = pc') (k1 : x.toInt ≤ 0 → G p l e R s m args below meth c n0 h0 ws Q cells slots h (mkF m pcT ls st)) (k2 : 0 < x.toInt → G p l e R s m args below meth c n0 h0 ws Q cells slots h (mkF m pc' ls st)) : G p l e R s m args below meth c n0 h0 ws Q cells slots h (mkF m pc ls (.int x :: st)) := by
  subst hp
  by_cases h : x.toInt ≤ 0
  · exact G.stepX (fun T locs k n t X _ q => XS.ifYes X.here B.1.1 rfl (pc0 := pc) (pc' := pcT) rfl (hb B.1.2.1 hd) rfl ((if0 _ _).trans (flt (own_nlt (x := 0) h)).2.2.2) ho hT q) (k1 h)
  · replace h := Int.not_le.mp h
    exact G.stepX (fun T locs k n t X _ q => XS.ifNo X.here B.1.1 rfl (hb B.1.2.1 hd) rfl ((if0 _ _).trans (tlt (own_ylt (x := 0) h)).2.2.2) q) (k2 h)
theorem G.lcmp_le {x y : Int64} {o : Int} {pc1 pcT : Nat} (B : Cx p s m meth c Z own nm bytes maxL rt n0 h0 ws) (hd0 : decode bytes pc = .ok (.lcmp, 1)) (hp0 : pc + 1 = pc1) (hd : decode bytes pc1 = .ok (.ifCond .le o, 3)) (ho : 0 ≤ (pc1 : Int) + o) (hT : ((pc1 : Int) + o).toNat = pcT) (hp : pc1 + 3 = pc') (k1 : x.toInt ≤ y.toInt → G p l e R s m args below meth c n0 h0 ws Q cells slots h (mkF m pcT ls st)) (k2 : y.toInt < x.toInt → G p l e R s m args below meth c n0 h0 ws Q cells slots h (mkF m pc' ls st)) : G p l e R s m args below meth c n0 h0 ws Q cells slots h (mkF m pc ls (.long y :: .long x :: st)) :=
  G.lcmp B hd0 hp0 (G.if_le B hd ho hT hp (fun q => k1 (by have := c_lcmp x y; omega)) (fun q => k2 (by have := c_lcmp x y; omega)))
theorem G.ifnull_t {b : Addr} {o : Int} {pcT : Nat} (B : Cx p s m meth c Z own nm bytes maxL rt n0 h0 ws) (hd : decode bytes pc = .ok (.ifnull o, 3)) (ho : 0 ≤ (pc : Int) + o) (hT : ((pc : Int) + o).toNat = pcT) (kk : G p l e R s m args below meth c n0 h0 ws Q cells slots h (mkF m pcT ls st)) : G p l e R s m args below meth c n0 h0 ws Q cells slots h (mkF m pc ls (.null :: st)) :=
  G.stepX (fun T locs k n t X _ q => XS.ifnullYes X.here B.1.1 rfl (pc0 := pc) (pc' := pcT) rfl (hb B.1.2.1 hd) rfl ho hT q) kk
theorem G.ifnull_f {b : Addr} {o : Int} (B : Cx p s m meth c Z own nm bytes maxL rt n0 h0 ws) (hd : decode bytes pc = .ok (.ifnull o, 3)) (hp : pc + 3 = pc') (kk : G p l e R s m args below meth c n0 h0 ws Q cells slots h (mkF m pc' ls st)) : G p l e R s m args below meth c n0 h0 ws Q cells slots h (mkF m pc ls (.ref b :: st)) := by
  subst hp
  exact G.stepX (fun T locs k n t X _ q => XS.ifnullNo X.here B.1.1 rfl (hb B.1.2.1 hd) rfl q) kk
theorem G.ifnonnull_t {b : Addr} {o : Int} {pcT : Nat} (B : Cx p s m meth c Z own nm bytes maxL rt n0 h0 ws) (hd : decode bytes pc = .ok (.ifnonnull o, 3)) (ho : 0 ≤ (pc : Int) + o) (hT : ((pc : Int) + o).toNat = pcT) (kk : G p l e R s m args below meth c n0 h0 ws Q cells slots h (mkF m pcT ls st)) : G p l e R s m args below meth c n0 h0 ws Q cells slots h (mkF m pc ls (.ref b :: st)) :=
  G.stepX (fun T locs k n t X _ q => XS.ifnonnullYes X.here B.1.1 rfl (pc0 := pc) (pc' := pcT) rfl (hb B.1.2.1 hd) rfl ho hT q) kk
theorem G.ifnonnull_f {b : Addr} {o : Int} (B : Cx p s m meth c Z own nm bytes maxL rt n0 h0 ws) (hd : decode bytes pc = .ok (.ifnonnull o, 3)) (hp : pc + 3 = pc') (kk : G p l e R s m args below meth c n0 h0 ws Q cells slots h (mkF m pc' ls st)) : G p l e R s m args below meth c n0 h0 ws Q cells slots h (mkF m pc ls (.null :: st)) := by
  subst hp
  exact G.stepX (fun T locs k n t X _ q => XS.ifnonnullNo X.here B.1.1 rfl (hb B.1.2.1 hd) rfl q) kk
theorem G.ldc2 {index : Nat} {v : Int64} (B : Cx p s m meth c Z own nm bytes maxL rt n0 h0 ws) (w : (Jvm.Cond.constantLong own index v).before a0 Z = true) (hd : decode bytes pc = .ok (.ldc2_w index, 3)) (hp : pc + 3 = pc') (kk : G p l e R s m args below meth c n0 h0 ws Q cells slots h (mkF m pc' ls (.long v :: st))) : G p l e R s m args below meth c n0 h0 ws Q cells slots h (mkF m pc ls st) := by
  subst hp
  exact G.stepX (fun T locs k n t X _ q => X.ldc2Long B.1.1 B.1.2.2.2.1 (mvT B.1.2.2.2.2 w) (g := mkF m pc ls st) rfl (hb B.1.2.1 hd) t q) kk
theorem G.ldcI {index : Nat} {v : Int32} (B : Cx p s m meth c Z own nm bytes maxL rt n0 h0 ws) (w : (Jvm.Cond.constant own index v).before a0 Z = true) (hd : decode bytes pc = .ok (.ldc index, 2)) (hp : pc + 2 = pc') (kk : G p l e R s m args below meth c n0 h0 ws Q cells slots h (mkF m pc' ls (.int v :: st))) : G p l e R s m args below meth c n0 h0 ws Q cells slots h (mkF m pc ls st) := by
  subst hp
  exact G.stepX (fun T locs k n t X _ q => X.ldcInt B.1.1 B.1.2.2.2.1 (mvT B.1.2.2.2.2 w) (g := mkF m pc ls st) rfl (hb B.1.2.1 hd) t q) kk
theorem G.ldcW {index : Nat} {v : Int32} (B : Cx p s m meth c Z own nm bytes maxL rt n0 h0 ws) (w : (Jvm.Cond.constant own index v).before a0 Z = true) (hd : decode bytes pc = .ok (.ldc_w index, 3)) (hp : pc + 3 = pc') (kk : G p l e R s m args below meth c n0 h0 ws Q cells slots h (mkF m pc' ls (.int v :: st))) : G p l e R s m args below meth c n0 h0 ws Q cells slots h (mkF m pc ls st) := by
  subst hp
  exact G.stepX (fun T locs k n t X _ q => X.ldcwInt B.1.1 B.1.2.2.2.1 (mvT B.1.2.2.2.2 w) (g := mkF m pc ls st) rfl (hb B.1.2.1 hd) t q) kk
theorem G.retV {Q' : Heap → Prop} (B : Cx p s m meth c Z own nm bytes maxL none n0 h0 ws) (hd : decode bytes pc = .ok (.return_, 1)) (hc : cells ≤ R.cells) (hs : slots ≤ R.slots) (hQ : Q' h) : G p l e R s m args below meth c n0 h0 ws (RV Q') cells slots h (mkF m pc ls []) :=
  G.out (v := none) B (fun _ => rfl) hc hs ⟨rfl, hQ⟩ (fun T locs k n fs X hr => X.returnOut B.1.1 B.2.1 (hb B.1.2.1 hd) hr)
theorem G.retI {Q' : Int32 → Heap → Prop} {z : Int32} (B : Cx p s m meth c Z own nm bytes maxL (some .int) n0 h0 ws) (hd : decode bytes pc = .ok (.ireturn, 1)) (hc : cells ≤ R.cells) (hs : slots ≤ R.slots) (hQ : Q' z h) : G p l e R s m args below meth c n0 h0 ws (RI Q') cells slots h (mkF m pc ls (.int z :: st)) :=
  G.out (v := some (.int z)) B (fun q => nomatch q) hc hs ⟨z, rfl, hQ⟩ (fun T locs k n fs X hr => Jvm.RoadKit.retI X B.1.1 B.2.1 (hb B.1.2.1 hd) hr)
theorem G.retN {Q' : Int32 → Heap → Prop} {z : Int32} {t : FieldType} (B : Cx p s m meth c Z own nm bytes maxL (some t) n0 h0 ws) (ht : t = .boolean ∨ t = .byte ∨ t = .char ∨ t = .short) (hd : decode bytes pc = .ok (.ireturn, 1)) (hc : cells ≤ R.cells) (hs : slots ≤ R.slots) (hQ : Q' (nar t z) h) : G p l e R s m args below meth c n0 h0 ws (RI Q') cells slots h (mkF m pc ls (.int z :: st)) :=
  G.out (v := some (.int (nar t z))) B (fun q => nomatch q) hc hs ⟨_, rfl, hQ⟩ (fun T locs k n fs X hr => Jvm.RoadKit.retN X B.1.1 B.2.1 ht (hb B.1.2.1 hd) hr)
theorem G.retZ {Q' : Int32 → Heap → Prop} {z : Int32} (B : Cx p s m meth c Z own nm bytes maxL (some .boolean) n0 h0 ws) (hd : decode bytes pc = .ok (.ireturn, 1)) (hc : cells ≤ R.cells) (hs : slots ≤ R.slots) (hz : z = 0 ∨ z = 1) (hQ : Q' z h) : G p l e R s m args below meth c n0 h0 ws (RI Q') cells slots h (mkF m pc ls (.int z :: st)) :=
  G.retN B (Or.inl rfl) hd hc hs (by rcases hz with rfl | rfl <;> exact hQ)
theorem own_retJ {T : State} {locs : List Loc} {Ls : Array Slot} {w : Int64} {rest : List Value} (X : Stand p l e R s m args below meth c T locs cells slots) (hx : p.tables.exec = Jvm.exec) (hret : meth.sig.returnType = some .long) (hd : decode c.code pc = .ok (.lreturn, 1)) {fs : List Frame}
    (hr : ∀ (f : JFrame) (acts : List Action), f.method = m → f.locked = none → f.entered = [] → (doReturn e (T.setTop f) acts (some (.long w))).1 = T.setFrames fs) : Steps p.tables e below (T.setTop (mkF m pc Ls (.long w :: rest))) (T.setFrames fs) := by
  have hm' : T.vm.method? m = some meth := X.method'
  show Steps p.tables e below (T.setTop { method := m, pc := pc, locals := Ls, stack := _ :: rest, locked := none }) _
  jvm_step X.here [X.here.top, hx, hd, hm', hret, narrow]
  first | (intro acts; rw [hr _ acts rfl rfl rfl]) | rw [hr _ _ rfl rfl rfl]
  exact Steps.refl _
theorem G.retJ {Q' : Int64 → Heap → Prop} {z : Int64} (B : Cx p s m meth c Z own nm bytes maxL (some .long) n0 h0 ws) (hd : decode bytes pc = .ok (.lreturn, 1)) (hc : cells ≤ R.cells) (hs : slots ≤ R.slots) (hQ : Q' z h) : G p l e R s m args below meth c n0 h0 ws (RJ Q') cells slots h (mkF m pc ls (.long z :: st)) :=
  G.out (v := some (.long z)) B (fun q => nomatch q) hc hs ⟨z, rfl, hQ⟩ (fun T locs k n fs X hr => own_retJ X B.1.1 B.2.1 (hb B.1.2.1 hd) hr)
theorem own_retA {T : State} {locs : List Loc} {Ls : Array Slot} {w : Addr} {rest : List Value} {t : FieldType} (X : Stand p l e R s m args below meth c T locs cells slots) (hx : p.tables.exec = Jvm.exec) (hret : meth.sig.returnType = some t) (ht : t.isReference = true) (hd : decode c.code pc = .ok (.areturn, 1)) {fs : List Frame}
    (hr : ∀ (f : JFrame) (acts : List Action), f.method = m → f.locked = none → f.entered = [] → (doReturn e (T.setTop f) acts (some (.ref w))).1 = T.setFrames fs) : Steps p.tables e below (T.setTop (mkF m pc Ls (.ref w :: rest))) (T.setFrames fs) := by
  have hm' : T.vm.method? m = some meth := X.method'
  show Steps p.tables e below (T.setTop { method := m, pc := pc, locals := Ls, stack := _ :: rest, locked := none }) _
  jvm_step X.here [X.here.top, hx, hd, hm', hret, Value.isRef, ht]
  first | (intro acts; rw [hr _ acts rfl rfl rfl]) | rw [hr _ _ rfl rfl rfl]
  exact Steps.refl _
theorem G.retA {Q' : Addr → Heap → Prop} {z : Addr} {t : FieldType} (B : Cx p s m meth c Z own nm bytes maxL (some t) n0 h0 ws) (ht : t.isReference = true) (hd : decode bytes pc = .ok (.areturn, 1)) (hc : cells ≤ R.cells) (hs : slots ≤ R.slots) (hQ : Q' z h) : G p l e R s m args below meth c n0 h0 ws (RA Q') cells slots h (mkF m pc ls (.ref z :: st)) :=
  G.out (v := some (.ref z)) B (fun q => nomatch q) hc hs ⟨z, rfl, hQ⟩ (fun T locs k n fs X hr => own_retA X B.1.1 B.2.1 ht (hb B.1.2.1 hd) hr)
theorem G.getF {R0 O n d host : String} {index : Nat} {a : Addr} {v : Value} (B : Cx p s m meth c Z own nm bytes maxL rt n0 h0 ws) (w : (Jvm.Cond.fieldLink own index R0 n d).before a0 Z = true ∨ (Jvm.Cond.fieldLinkNest own index R0 n d host).before a0 Z = true) (via : Via Z R0 O n d) (Fd : Fld Z h a O n d v) (hd : decode bytes pc = .ok (.getfield index, 3)) (hp : pc + 3 = pc') (kk : G p l e R s m args below meth c n0 h0 ws Q cells slots h (mkF m pc' ls (v :: st))) : G p l e R s m args below meth c n0 h0 ws Q cells slots h (mkF m pc ls (.ref a :: st)) := by
  subst hp
  exact G.stepT (fun T locs k n X eT => Jvm.RoadKit.getF X B.1.1 B.1.2.2.2.2 B.1.2.2.2.1 w via eT Fd (g := (mkF m pc ls (.ref a :: st))) rfl rfl (hb B.1.2.1 hd)) kk
theorem G.putF {R0 O n d C : String} {index kq : Nat} {ty : FieldType} {a : Addr} {v v' old : Value} (B : Cx p s m meth c Z own nm bytes maxL rt n0 h0 ws) (w : (Jvm.Cond.fieldLink own index R0 n d).before a0 Z = true) (via : Via Z R0 O n d) (Fd : Fld Z h a O n d old) (E : Exa Z h a C) (L : (Jvm.Cond.lays C O n d).before a0 Z = true ∨ ((Jvm.Cond.laysFinal C O n d).before a0 Z = true ∧ own = O ∧ nm = "<init>")) (wi : (Jvm.Cond.instantiable C kq).before a0 Z = true)
    (hty : parseFieldDescriptor d = some ty) (hn : narrow ty v = v') (hf : fits ty v' = true) (ha : a ∈ ws ∨ h0.size ≤ a) (hd : decode bytes pc = .ok (.putfield index, 3)) (hp : pc + 3 = pc') (kk : ∀ h', Wr h h' a (Jvm.RoadKit.slotOf Z O n d) v' → G p l e R s m args below meth c n0 h0 ws Q cells slots h' (mkF m pc' ls st)) : G p l e R s m args below meth c n0 h0 ws Q cells slots h (mkF m pc ls (v :: .ref a :: st)) := by
  subst hp
  exact G.wr B ha (fun T locs k n X eT => Jvm.RoadKit.putFN X B.1.1 B.1.2.2.2.2 B.1.2.2.2.1 w via eT Fd E (L.imp id (fun q => ⟨q.1, q.2.1, B.2.2.2.1.trans q.2.2⟩)) wi hty hn hf (g := (mkF m pc ls (v :: .ref a :: st))) rfl rfl (hb B.1.2.1 hd)) kk
theorem G.newO {C : String} {index q : Nat} (B : Cx p s m meth c Z own nm bytes maxL rt n0 h0 ws) (w : (Jvm.Cond.classLink own index C).before a0 Z = true) (wi : (Jvm.Cond.instantiable C q).before a0 Z = true) (wz : (Jvm.Cond.initialized C).before a0 Z = true) (hd : decode bytes pc = .ok (.new index, 3)) (hp : pc + 3 = pc') (hc : cells + 1 ≤ R.cells) (hl : slots + q ≤ R.slots)
    (kk : ∀ h' a, a = h.size → h0.size ≤ a → Keep h h' [] → a < h'.size → Exa Z h' a C → (∀ {O n d : String} {ty : FieldType}, Laid Z a0 C O n d → parseFieldDescriptor d = some ty → Fld Z h' a O n d (defaultValue ty)) → G p l e R s m args below meth c n0 h0 ws Q (cells + 1) (slots + q) h' (mkF m pc' ls (.ref a :: st))) : G p l e R s m args below meth c n0 h0 ws Q cells slots h (mkF m pc ls st) := fun T locs k n X hk hn eT N K => by
  subst hp
  obtain ⟨T', h', X', e', E', A', D', -, stp⟩ := Jvm.RoadKit.newO X B.1.1 B.1.2.2.2.2 B.1.2.2.2.1 w wi wz eT (g := (mkF m pc ls st)) rfl (hb B.1.2.1 hd) (Nat.le_trans (Nat.add_le_add_right hk 1) hc) (Nat.le_trans (Nat.add_le_add_right hn q) hl)
  obtain ⟨U, v, L, hs, r⟩ := kk h' h.size rfl K.1 ((Keep.refl h []).ext E') A'.lt A' D' T' locs (k + 1) (n + q) X' (Nat.add_le_add_right hk 1) (Nat.add_le_add_right hn q) e' N (K.ext E')
  exact ⟨U, v, L, stp U hs, r⟩
theorem G.initO {index W : Nat} {a : Addr} (B : Cx p s m meth c Z own nm bytes maxL rt n0 h0 ws) (w1 : (Jvm.Cond.methodLink own index Lib.objectInit).before a0 Z = true) (w2 : (Jvm.Cond.instanceMethod Lib.objectInit).before a0 Z = true) (w3 : (Jvm.Cond.code Lib.objectInit ⟨#[0xb1]⟩ 1 none).before a0 Z = true) (hsz : ls.size = maxL) (hd : decode bytes pc = .ok (.invokespecial index, 3)) (hp : pc + 3 = pc') (hf : 1 ≤ R.frames) (hW : 2 * 0 + (st.map fun v => v.category).sum ≤ W) (hl : W + 12 ≤ R.locals) (kk : G p l e R s m args below meth c n0 h0 ws Q cells slots h (mkF m pc' ls st)) : G p l e R s m args below meth c n0 h0 ws Q cells slots h (mkF m pc ls (.ref a :: st)) := by
  subst hp
  exact G.stepT (fun T locs k n X eT => Jvm.RoadKit.initO X B.1.1 B.1.2.2.2.2 B.1.2.2.2.1 w1 w2 w3 eT (g := (mkF m pc ls (.ref a :: st))) rfl (hsz.trans B.1.2.2.1.symm) rfl (hb B.1.2.1 hd) hf (W := W) hW hl) kk
/-- an array of longs, of length n, its elements f -/
def ArJ (Z : State) (h : Heap) (a : Addr) (n : Nat) (f : Nat → Int64) : Prop := ∃ cl : Cell, Arr Z h a cl .long ∧ cl.slots.size = n ∧ n < 2147483648 ∧ ∀ i, i < n → cl.slots[i]? = some (.long (f i))
/-- an array of ints, bytes, booleans, chars or shorts -/
def ArI (Z : State) (h : Heap) (a : Addr) (ty : FieldType) (n : Nat) (f : Nat → Int32) : Prop := ∃ cl : Cell, Arr Z h a cl ty ∧ cl.slots.size = n ∧ n < 2147483648 ∧ ∀ i, i < n → cl.slots[i]? = some (.int (f i))
/-- f with v at the place j -/
def up {α : Type} (f : Nat → α) (j : Nat) (v : α) : Nat → α := fun i => if i = j then v else f i
theorem ArJ.lt {a : Addr} {n : Nat} {f : Nat → Int64} (A : ArJ Z h a n f) : a < h.size := by obtain ⟨cl, A, -⟩ := A; exact A.lt
theorem ArI.lt {a : Addr} {ty : FieldType} {n : Nat} {f : Nat → Int32} (A : ArI Z h a ty n f) : a < h.size := by obtain ⟨cl, A, -⟩ := A; exact A.lt
theorem ArJ.keep {a : Addr} {n : Nat} {f : Nat → Int64} {h' : Heap} {vs : List Addr} (A : ArJ Z h a n f) (K : Keep h h' vs) (q : a ∉ vs) : ArJ Z h' a n f := by obtain ⟨cl, A, r⟩ := A; exact ⟨cl, ⟨K.2.1 a cl A.1 q, A.2⟩, r⟩
theorem ArI.keep {a : Addr} {ty : FieldType} {n : Nat} {f : Nat → Int32} {h' : Heap} {vs : List Addr} (A : ArI Z h a ty n f) (K : Keep h h' vs) (q : a ∉ vs) : ArI Z h' a ty n f := by obtain ⟨cl, A, r⟩ := A; exact ⟨cl, ⟨K.2.1 a cl A.1 q, A.2⟩, r⟩
theorem own_idx {j : Int32} {i n : Nat} (hj : j.toInt = (i : Int)) (hi : i < n) : ¬ (j < 0 ∨ n ≤ j.toNatClampNeg) ∧ j.toNatClampNeg = i := by
  have h1 : j.toNatClampNeg = i := by show j.toInt.toNat = i; omega
  refine ⟨?_, h1⟩
  rintro (q | q)
  · rw [Int32.lt_iff_toInt_lt, Int32.toInt_zero] at q; omega
  · omega
theorem own_set {a : Addr} {cl : Cell} {ty : FieldType} {h' : Heap} {i n : Nat} {v : Value} {g : Nat → Value} (A : Arr Z h a cl ty) (hs : cl.slots.size = n) (hv : ∀ i, i < n → cl.slots[i]? = some (g i)) (W : Wr h h' a i v) : ∃ cl' : Cell, Arr Z h' a cl' ty ∧ cl'.slots.size = n ∧ ∀ k, k < n → cl'.slots[k]? = some (if k = i then v else g k) := by
  obtain ⟨cb', q1, q2, q3, q4, q5, q6, q7⟩ := wr_at W A.1
  obtain ⟨r1, r2, r3⟩ := q7 rfl
  subst r1
  refine ⟨_, A.same W, q4.trans hs, fun k hk => ?_⟩
  by_cases e : k = i
  · subst e; rw [if_pos rfl]; exact r2
  · rw [if_neg e, q6 k e]; exact hv k hk
theorem ArJ.set {a : Addr} {n : Nat} {f : Nat → Int64} {h' : Heap} {i : Nat} {v : Int64} (A : ArJ Z h a n f) (W : Wr h h' a i (.long v)) : ArJ Z h' a n (up f i v) := by
  obtain ⟨cl, A, hs, hn, hv⟩ := A
  obtain ⟨cl', A', hs', hv'⟩ := own_set (g := fun i => .long (f i)) A hs hv W
  refine ⟨cl', A', hs', hn, fun k hk => ?_⟩
  rw [hv' k hk]; unfold up; split <;> rfl
theorem ArI.set {a : Addr} {ty : FieldType} {n : Nat} {f : Nat → Int32} {h' : Heap} {i : Nat} {v : Int32} (A : ArI Z h a ty n f) (W : Wr h h' a i (.int v)) : ArI Z h' a ty n (up f i v) := by
  obtain ⟨cl, A, hs, hn, hv⟩ := A
  obtain ⟨cl', A', hs', hv'⟩ := own_set (g := fun i => .int (f i)) A hs hv W
  refine ⟨cl', A', hs', hn, fun k hk => ?_⟩
  rw [hv' k hk]; unfold up; split <;> rfl
theorem ArJ.congr {a : Addr} {n : Nat} {f g : Nat → Int64} (A : ArJ Z h a n f) (q : ∀ i, i < n → f i = g i) : ArJ Z h a n g := by
  obtain ⟨cl, A, hs, hn, hv⟩ := A
  exact ⟨cl, A, hs, hn, fun i hi => by rw [← q i hi]; exact hv i hi⟩
theorem ArI.congr {a : Addr} {ty : FieldType} {n : Nat} {f g : Nat → Int32} (A : ArI Z h a ty n f) (q : ∀ i, i < n → f i = g i) : ArI Z h a ty n g := by
  obtain ⟨cl, A, hs, hn, hv⟩ := A
  exact ⟨cl, A, hs, hn, fun i hi => by rw [← q i hi]; exact hv i hi⟩
theorem G.stJ {a : Addr} {j : Int32} {i n : Nat} {f : Nat → Int64} {x : Int64} (B : Cx p s m meth c Z own nm bytes maxL rt n0 h0 ws) (A : ArJ Z h a n f) (hj : j.toInt = (i : Int)) (hi : i < n) (ha : a ∈ ws ∨ h0.size ≤ a) (hd : decode bytes pc = .ok (.lastore, 1)) (hp : pc + 1 = pc') (kk : ∀ h', Keep h h' [a] → ArJ Z h' a n (up f i x) → G p l e R s m args below meth c n0 h0 ws Q cells slots h' (mkF m pc' ls st)) : G p l e R s m args below meth c n0 h0 ws Q cells slots h (mkF m pc ls (.long x :: .int j :: .ref a :: st)) := by
  subst hp
  have A0 := A
  obtain ⟨cl, A, hs, hn, hv⟩ := A
  obtain ⟨hin, hjn⟩ := own_idx hj (hs.symm ▸ hi : i < cl.slots.size)
  exact G.wr B ha (fun T locs k n X eT => Jvm.RoadKit.stJ X B.1.1 B.1.2.2.2.2 eT A (j := j) hin (g := (mkF m pc ls (.long x :: .int j :: .ref a :: st))) rfl rfl (hb B.1.2.1 hd)) (fun h' W => kk h' (Keep.of_wr W) (A0.set (hjn ▸ W)))
theorem G.stI {a : Addr} {j : Int32} {i n : Nat} {f : Nat → Int32} {x : Int32} (B : Cx p s m meth c Z own nm bytes maxL rt n0 h0 ws) (A : ArI Z h a .int n f) (hj : j.toInt = (i : Int)) (hi : i < n) (ha : a ∈ ws ∨ h0.size ≤ a) (hd : decode bytes pc = .ok (.iastore, 1)) (hp : pc + 1 = pc') (kk : ∀ h', Keep h h' [a] → ArI Z h' a .int n (up f i x) → G p l e R s m args below meth c n0 h0 ws Q cells slots h' (mkF m pc' ls st)) : G p l e R s m args below meth c n0 h0 ws Q cells slots h (mkF m pc ls (.int x :: .int j :: .ref a :: st)) := by
  subst hp
  have A0 := A
  obtain ⟨cl, A, hs, hn, hv⟩ := A
  obtain ⟨hin, hjn⟩ := own_idx hj (hs.symm ▸ hi : i < cl.slots.size)
  exact G.wr B ha (fun T locs k n X eT => Jvm.RoadKit.stI X B.1.1 B.1.2.2.2.2 eT A (j := j) hin (g := (mkF m pc ls (.int x :: .int j :: .ref a :: st))) rfl rfl (hb B.1.2.1 hd)) (fun h' W => kk h' (Keep.of_wr W) (A0.set (hjn ▸ W)))
theorem G.stB {a : Addr} {j : Int32} {i n : Nat} {f : Nat → Int32} {x z : Int32} (B : Cx p s m meth c Z own nm bytes maxL rt n0 h0 ws) (A : ArI Z h a .byte n f) (hj : j.toInt = (i : Int)) (hi : i < n) (ha : a ∈ ws ∨ h0.size ≤ a) (hz : nar .byte x = z) (hd : decode bytes pc = .ok (.bastore, 1)) (hp : pc + 1 = pc') (kk : ∀ h', Keep h h' [a] → ArI Z h' a .byte n (up f i z) → G p l e R s m args below meth c n0 h0 ws Q cells slots h' (mkF m pc' ls st)) : G p l e R s m args below meth c n0 h0 ws Q cells slots h (mkF m pc ls (.int x :: .int j :: .ref a :: st)) := by
  subst hp hz
  have A0 := A
  obtain ⟨cl, A, hs, hn, hv⟩ := A
  obtain ⟨hin, hjn⟩ := own_idx hj (hs.symm ▸ hi : i < cl.slots.size)
  exact G.wr B ha (fun T locs k n X eT => Jvm.RoadKit.stB X B.1.1 B.1.2.2.2.2 eT A (j := j) hin (g := (mkF m pc ls (.int x :: .int j :: .ref a :: st))) rfl rfl (hb B.1.2.1 hd)) (fun h' W => kk h' (Keep.of_wr W) (A0.set (hjn ▸ W)))
theorem G.stZ {a : Addr} {j : Int32} {i n : Nat} {f : Nat → Int32} {x z : Int32} (B : Cx p s m meth c Z own nm bytes maxL rt n0 h0 ws) (A : ArI Z h a .boolean n f) (hj : j.toInt = (i : Int)) (hi : i < n) (ha : a ∈ ws ∨ h0.size ≤ a) (hz : nar .boolean x = z) (hd : decode bytes pc = .ok (.bastore, 1)) (hp : pc + 1 = pc') (kk : ∀ h', Keep h h' [a] → ArI Z h' a .boolean n (up f i z) → G p l e R s m args below meth c n0 h0 ws Q cells slots h' (mkF m pc' ls st)) : G p l e R s m args below meth c n0 h0 ws Q cells slots h (mkF m pc ls (.int x :: .int j :: .ref a :: st)) := by
  subst hp hz
  have A0 := A
  obtain ⟨cl, A, hs, hn, hv⟩ := A
  obtain ⟨hin, hjn⟩ := own_idx hj (hs.symm ▸ hi : i < cl.slots.size)
  exact G.wr B ha (fun T locs k n X eT => Jvm.RoadKit.stZ X B.1.1 B.1.2.2.2.2 eT A (j := j) hin (g := (mkF m pc ls (.int x :: .int j :: .ref a :: st))) rfl rfl (hb B.1.2.1 hd)) (fun h' W => kk h' (Keep.of_wr W) (A0.set (hjn ▸ W)))
theorem G.stC {a : Addr} {j : Int32} {i n : Nat} {f : Nat → Int32} {x z : Int32} (B : Cx p s m meth c Z own nm bytes maxL rt n0 h0 ws) (A : ArI Z h a .char n f) (hj : j.toInt = (i : Int)) (hi : i < n) (ha : a ∈ ws ∨ h0.size ≤ a) (hz : nar .char x = z) (hd : decode bytes pc = .ok (.castore, 1)) (hp : pc + 1 = pc') (kk : ∀ h', Keep h h' [a] → ArI Z h' a .char n (up f i z) → G p l e R s m args below meth c n0 h0 ws Q cells slots h' (mkF m pc' ls st)) : G p l e R s m args below meth c n0 h0 ws Q cells slots h (mkF m pc ls (.int x :: .int j :: .ref a :: st)) := by
  subst hp hz
  have A0 := A
  obtain ⟨cl, A, hs, hn, hv⟩ := A
  obtain ⟨hin, hjn⟩ := own_idx hj (hs.symm ▸ hi : i < cl.slots.size)
  exact G.wr B ha (fun T locs k n X eT => Jvm.RoadKit.stC X B.1.1 B.1.2.2.2.2 eT A (j := j) hin (g := (mkF m pc ls (.int x :: .int j :: .ref a :: st))) rfl rfl (hb B.1.2.1 hd)) (fun h' W => kk h' (Keep.of_wr W) (A0.set (hjn ▸ W)))
theorem G.ldJ {a : Addr} {j : Int32} {i n : Nat} {f : Nat → Int64} {x : Int64} (B : Cx p s m meth c Z own nm bytes maxL rt n0 h0 ws) (A : ArJ Z h a n f) (hj : j.toInt = (i : Int)) (hi : i < n) (hv : f i = x) (hd : decode bytes pc = .ok (.laload, 1)) (hp : pc + 1 = pc') (kk : G p l e R s m args below meth c n0 h0 ws Q cells slots h (mkF m pc' ls (.long x :: st))) : G p l e R s m args below meth c n0 h0 ws Q cells slots h (mkF m pc ls (.int j :: .ref a :: st)) := by
  subst hp hv
  obtain ⟨cl, A, hs, hn, hv⟩ := A
  obtain ⟨hin, hjn⟩ := own_idx hj (hs.symm ▸ hi : i < cl.slots.size)
  exact G.stepX (fun T locs k n t X eT q => X.laload B.1.1 (j := j) (by rw [eT]; exact A.1) (State.isArrayOf_alike B.1.2.2.2.2.alike A.2.1) A.2.2 hin (by rw [hjn]; exact hv i hi) (g := (mkF m pc ls (.int j :: .ref a :: st))) rfl rfl (hb B.1.2.1 hd) _ q) kk
theorem G.ldI {a : Addr} {j : Int32} {i n : Nat} {f : Nat → Int32} {x : Int32} (B : Cx p s m meth c Z own nm bytes maxL rt n0 h0 ws) (A : ArI Z h a .int n f) (hj : j.toInt = (i : Int)) (hi : i < n) (hv : f i = x) (hd : decode bytes pc = .ok (.iaload, 1)) (hp : pc + 1 = pc') (kk : G p l e R s m args below meth c n0 h0 ws Q cells slots h (mkF m pc' ls (.int x :: st))) : G p l e R s m args below meth c n0 h0 ws Q cells slots h (mkF m pc ls (.int j :: .ref a :: st)) := by
  subst hp hv
  obtain ⟨cl, A, hs, hn, hv⟩ := A
  obtain ⟨hin, hjn⟩ := own_idx hj (hs.symm ▸ hi : i < cl.slots.size)
  exact G.stepX (fun T locs k n t X eT q => X.iaload B.1.1 (j := j) (by rw [eT]; exact A.1) (State.isArrayOf_alike B.1.2.2.2.2.alike A.2.1) A.2.2 hin (by rw [hjn]; exact hv i hi) (g := (mkF m pc ls (.int j :: .ref a :: st))) rfl rfl (hb B.1.2.1 hd) _ q) kk
theorem G.ldC {a : Addr} {j : Int32} {i n : Nat} {f : Nat → Int32} {x : Int32} (B : Cx p s m meth c Z own nm bytes maxL rt n0 h0 ws) (A : ArI Z h a .char n f) (hj : j.toInt = (i : Int)) (hi : i < n) (hv : f i = x) (hd : decode bytes pc = .ok (.caload, 1)) (hp : pc + 1 = pc') (kk : G p l e R s m args below meth c n0 h0 ws Q cells slots h (mkF m pc' ls (.int x :: st))) : G p l e R s m args below meth c n0 h0 ws Q cells slots h (mkF m pc ls (.int j :: .ref a :: st)) := by
  subst hp hv
  obtain ⟨cl, A, hs, hn, hv⟩ := A
  obtain ⟨hin, hjn⟩ := own_idx hj (hs.symm ▸ hi : i < cl.slots.size)
  exact G.stepX (fun T locs k n t X eT q => X.caload B.1.1 (j := j) (by rw [eT]; exact A.1) (State.isArrayOf_alike B.1.2.2.2.2.alike A.2.1) A.2.2 hin (by rw [hjn]; exact hv i hi) (g := (mkF m pc ls (.int j :: .ref a :: st))) rfl rfl (hb B.1.2.1 hd) _ q) kk
theorem G.ldB {a : Addr} {j : Int32} {i n : Nat} {f : Nat → Int32} {x : Int32} (B : Cx p s m meth c Z own nm bytes maxL rt n0 h0 ws) (A : ArI Z h a .byte n f) (hj : j.toInt = (i : Int)) (hi : i < n) (hv : f i = x) (hd : decode bytes pc = .ok (.baload, 1)) (hp : pc + 1 = pc') (kk : G p l e R s m args below meth c n0 h0 ws Q cells slots h (mkF m pc' ls (.int x :: st))) : G p l e R s m args below meth c n0 h0 ws Q cells slots h (mkF m pc ls (.int j :: .ref a :: st)) := by
  subst hp hv
  obtain ⟨cl, A, hs, hn, hv⟩ := A
  obtain ⟨hin, hjn⟩ := own_idx hj (hs.symm ▸ hi : i < cl.slots.size)
  exact G.stepX (fun T locs k n t X eT q => X.baloadBytes B.1.1 (j := j) (by rw [eT]; exact A.1) (State.isArrayOf_alike B.1.2.2.2.2.alike A.2.1) A.2.2 hin (by rw [hjn]; exact hv i hi) (g := (mkF m pc ls (.int j :: .ref a :: st))) rfl rfl (hb B.1.2.1 hd) _ q) kk
theorem G.ldZ {a : Addr} {j : Int32} {i n : Nat} {f : Nat → Int32} {x : Int32} (B : Cx p s m meth c Z own nm bytes maxL rt n0 h0 ws) (A : ArI Z h a .boolean n f) (hj : j.toInt = (i : Int)) (hi : i < n) (hv : f i = x) (hd : decode bytes pc = .ok (.baload, 1)) (hp : pc + 1 = pc') (kk : G p l e R s m args below meth c n0 h0 ws Q cells slots h (mkF m pc' ls (.int x :: st))) : G p l e R s m args below meth c n0 h0 ws Q cells slots h (mkF m pc ls (.int j :: .ref a :: st)) := by
  subst hp hv
  obtain ⟨cl, A, hs, hn, hv⟩ := A
  obtain ⟨hin, hjn⟩ := own_idx hj (hs.symm ▸ hi : i < cl.slots.size)
  exact G.stepX (fun T locs k n t X eT q => X.baloadBooleans B.1.1 (j := j) (by rw [eT]; exact A.1) (State.isArrayOf_alike B.1.2.2.2.2.alike A.2.1) A.2.2 hin (by rw [hjn]; exact hv i hi) (g := (mkF m pc ls (.int j :: .ref a :: st))) rfl rfl (hb B.1.2.1 hd) _ q) kk
theorem G.lenJ {a : Addr} {n : Nat} {z : Int32} {f : Nat → Int64} (B : Cx p s m meth c Z own nm bytes maxL rt n0 h0 ws) (A : ArJ Z h a n f) (hz : Int32.ofNat n = z) (hd : decode bytes pc = .ok (.arraylength, 1)) (hp : pc + 1 = pc') (kk : G p l e R s m args below meth c n0 h0 ws Q cells slots h (mkF m pc' ls (.int z :: st))) : G p l e R s m args below meth c n0 h0 ws Q cells slots h (mkF m pc ls (.ref a :: st)) := by
  subst hp hz
  obtain ⟨cl, A, hs, hn, hv⟩ := A
  subst hs
  exact G.stepX (fun T locs k n t X eT q => X.arraylength B.1.1 (by rw [eT]; exact A.1) (State.isArrayOf_alike B.1.2.2.2.2.alike A.2.1) (g := (mkF m pc ls (.ref a :: st))) rfl rfl (hb B.1.2.1 hd) _ q) kk
theorem G.lenI {a : Addr} {n : Nat} {z : Int32} {f : Nat → Int32} {ty : FieldType} (B : Cx p s m meth c Z own nm bytes maxL rt n0 h0 ws) (A : ArI Z h a ty n f) (hz : Int32.ofNat n = z) (hd : decode bytes pc = .ok (.arraylength, 1)) (hp : pc + 1 = pc') (kk : G p l e R s m args below meth c n0 h0 ws Q cells slots h (mkF m pc' ls (.int z :: st))) : G p l e R s m args below meth c n0 h0 ws Q cells slots h (mkF m pc ls (.ref a :: st)) := by
  subst hp hz
  obtain ⟨cl, A, hs, hn, hv⟩ := A
  subst hs
  exact G.stepX (fun T locs k n t X eT q => X.arraylength B.1.1 (by rw [eT]; exact A.1) (State.isArrayOf_alike B.1.2.2.2.2.alike A.2.1) (g := (mkF m pc ls (.ref a :: st))) rfl rfl (hb B.1.2.1 hd) _ q) kk
theorem own_newJ {a : Addr} {cA : ClassId} {z : Int32} {n : Nat} (A : Arr Z h a (newA cA .long z) .long) (hz : z.toInt = (n : Int)) : ArJ Z h a n (fun _ => 0) := by
  have hr := rng32 z
  have h1 : z.toNatClampNeg = n := by show z.toInt.toNat = n; omega
  exact ⟨_, A, (sz_new _ _ _).trans h1, by omega, fun i hi => by simp [newA, h1, hi, defaultValue]⟩
theorem own_newI {a : Addr} {cA : ClassId} {z : Int32} {n : Nat} {ty : FieldType} (hd : defaultValue ty = .int 0) (A : Arr Z h a (newA cA ty z) ty) (hz : z.toInt = (n : Int)) : ArI Z h a ty n (fun _ => 0) := by
  have hr := rng32 z
  have h1 : z.toNatClampNeg = n := by show z.toInt.toNat = n; omega
  exact ⟨_, A, (sz_new _ _ _).trans h1, by omega, fun i hi => by simp [newA, h1, hi, hd]⟩
theorem G.newJ {z : Int32} {n cap : Nat} (B : Cx p s m meth c Z own nm bytes maxL rt n0 h0 ws) (w : (Jvm.Cond.arrayClass .long).before a0 Z = true) (hz : z.toInt = (n : Int)) (hcap : n ≤ cap) (hb8 : cap * 8 ≤ 536870912) (hd : decode bytes pc = .ok (.newarray .long, 2)) (hp : pc + 2 = pc') (hc : cells + 1 ≤ R.cells) (hl : slots + cap ≤ R.slots)
    (kk : ∀ h' a, a = h.size → h0.size ≤ a → Keep h h' [] → ArJ Z h' a n (fun _ => 0) → G p l e R s m args below meth c n0 h0 ws Q (cells + 1) (slots + cap) h' (mkF m pc' ls (.ref a :: st))) : G p l e R s m args below meth c n0 h0 ws Q cells slots h (mkF m pc ls (.int z :: st)) := fun T locs k n' X hk hn eT N K => by
  subst hp
  have hr := rng32 z
  have h1 : z.toNatClampNeg = n := by show z.toInt.toNat = n; omega
  obtain ⟨T', h', cA, X', e', E', A', stp⟩ := Jvm.RoadKit.newP X B.1.1 B.1.2.2.2.2 (aty := .long) w eT (g := (mkF m pc ls (.int z :: st))) rfl (hb B.1.2.1 hd) rfl (fun q => by rw [Int32.lt_iff_toInt_lt, Int32.toInt_zero] at q; omega) (cap := cap) (by omega) hb8 (Nat.le_trans (Nat.add_le_add_right hk 1) hc) (Nat.le_trans (Nat.add_le_add_right hn cap) hl)
  obtain ⟨U, v, L, hs, r⟩ := kk h' h.size rfl K.1 ((Keep.refl h []).ext E') (own_newJ A' hz) T' locs (k + 1) (n' + cap) X' (Nat.add_le_add_right hk 1) (Nat.add_le_add_right hn cap) e' N (K.ext E')
  exact ⟨U, v, L, stp U hs, r⟩
theorem G.newI {z : Int32} {n cap : Nat} (B : Cx p s m meth c Z own nm bytes maxL rt n0 h0 ws) (w : (Jvm.Cond.arrayClass .int).before a0 Z = true) (hz : z.toInt = (n : Int)) (hcap : n ≤ cap) (hb8 : cap * 8 ≤ 536870912) (hd : decode bytes pc = .ok (.newarray .int, 2)) (hp : pc + 2 = pc') (hc : cells + 1 ≤ R.cells) (hl : slots + cap ≤ R.slots)
    (kk : ∀ h' a, a = h.size → h0.size ≤ a → Keep h h' [] → ArI Z h' a .int n (fun _ => 0) → G p l e R s m args below meth c n0 h0 ws Q (cells + 1) (slots + cap) h' (mkF m pc' ls (.ref a :: st))) : G p l e R s m args below meth c n0 h0 ws Q cells slots h (mkF m pc ls (.int z :: st)) := fun T locs k n' X hk hn eT N K => by
  subst hp
  have hr := rng32 z
  have h1 : z.toNatClampNeg = n := by show z.toInt.toNat = n; omega
  obtain ⟨T', h', cA, X', e', E', A', stp⟩ := Jvm.RoadKit.newP X B.1.1 B.1.2.2.2.2 (aty := .int) w eT (g := (mkF m pc ls (.int z :: st))) rfl (hb B.1.2.1 hd) rfl (fun q => by rw [Int32.lt_iff_toInt_lt, Int32.toInt_zero] at q; omega) (cap := cap) (by omega) hb8 (Nat.le_trans (Nat.add_le_add_right hk 1) hc) (Nat.le_trans (Nat.add_le_add_right hn cap) hl)
  obtain ⟨U, v, L, hs, r⟩ := kk h' h.size rfl K.1 ((Keep.refl h []).ext E') (own_newI rfl A' hz) T' locs (k + 1) (n' + cap) X' (Nat.add_le_add_right hk 1) (Nat.add_le_add_right hn cap) e' N (K.ext E')
  exact ⟨U, v, L, stp U hs, r⟩
theorem G.newB {z : Int32} {n cap : Nat} (B : Cx p s m meth c Z own nm bytes maxL rt n0 h0 ws) (w : (Jvm.Cond.arrayClass .byte).before a0 Z = true) (hz : z.toInt = (n : Int)) (hcap : n ≤ cap) (hb8 : cap * 8 ≤ 536870912) (hd : decode bytes pc = .ok (.newarray .byte, 2)) (hp : pc + 2 = pc') (hc : cells + 1 ≤ R.cells) (hl : slots + cap ≤ R.slots)
    (kk : ∀ h' a, a = h.size → h0.size ≤ a → Keep h h' [] → ArI Z h' a .byte n (fun _ => 0) → G p l e R s m args below meth c n0 h0 ws Q (cells + 1) (slots + cap) h' (mkF m pc' ls (.ref a :: st))) : G p l e R s m args below meth c n0 h0 ws Q cells slots h (mkF m pc ls (.int z :: st)) := fun T locs k n' X hk hn eT N K => by
  subst hp
  have hr := rng32 z
  have h1 : z.toNatClampNeg = n := by show z.toInt.toNat = n; omega
  obtain ⟨T', h', cA, X', e', E', A', stp⟩ := Jvm.RoadKit.newP X B.1.1 B.1.2.2.2.2 (aty := .byte) w eT (g := (mkF m pc ls (.int z :: st))) rfl (hb B.1.2.1 hd) rfl (fun q => by rw [Int32.lt_iff_toInt_lt, Int32.toInt_zero] at q; omega) (cap := cap) (by omega) hb8 (Nat.le_trans (Nat.add_le_add_right hk 1) hc) (Nat.le_trans (Nat.add_le_add_right hn cap) hl)
  obtain ⟨U, v, L, hs, r⟩ := kk h' h.size rfl K.1 ((Keep.refl h []).ext E') (own_newI rfl A' hz) T' locs (k + 1) (n' + cap) X' (Nat.add_le_add_right hk 1) (Nat.add_le_add_right hn cap) e' N (K.ext E')
  exact ⟨U, v, L, stp U hs, r⟩
theorem G.newZ {z : Int32} {n cap : Nat} (B : Cx p s m meth c Z own nm bytes maxL rt n0 h0 ws) (w : (Jvm.Cond.arrayClass .boolean).before a0 Z = true) (hz : z.toInt = (n : Int)) (hcap : n ≤ cap) (hb8 : cap * 8 ≤ 536870912) (hd : decode bytes pc = .ok (.newarray .boolean, 2)) (hp : pc + 2 = pc') (hc : cells + 1 ≤ R.cells) (hl : slots + cap ≤ R.slots)
    (kk : ∀ h' a, a = h.size → h0.size ≤ a → Keep h h' [] → ArI Z h' a .boolean n (fun _ => 0) → G p l e R s m args below meth c n0 h0 ws Q (cells + 1) (slots + cap) h' (mkF m pc' ls (.ref a :: st))) : G p l e R s m args below meth c n0 h0 ws Q cells slots h (mkF m pc ls (.int z :: st)) := fun T locs k n' X hk hn eT N K => by
  subst hp
  have hr := rng32 z
  have h1 : z.toNatClampNeg = n := by show z.toInt.toNat = n; omega
  obtain ⟨T', h', cA, X', e', E', A', stp⟩ := Jvm.RoadKit.newP X B.1.1 B.1.2.2.2.2 (aty := .boolean) w eT (g := (mkF m pc ls (.int z :: st))) rfl (hb B.1.2.1 hd) rfl (fun q => by rw [Int32.lt_iff_toInt_lt, Int32.toInt_zero] at q; omega) (cap := cap) (by omega) hb8 (Nat.le_trans (Nat.add_le_add_right hk 1) hc) (Nat.le_trans (Nat.add_le_add_right hn cap) hl)
  obtain ⟨U, v, L, hs, r⟩ := kk h' h.size rfl K.1 ((Keep.refl h []).ext E') (own_newI rfl A' hz) T' locs (k + 1) (n' + cap) X' (Nat.add_le_add_right hk 1) (Nat.add_le_add_right hn cap) e' N (K.ext E')
  exact ⟨U, v, L, stp U hs, r⟩
theorem G.newC {z : Int32} {n cap : Nat} (B : Cx p s m meth c Z own nm bytes maxL rt n0 h0 ws) (w : (Jvm.Cond.arrayClass .char).before a0 Z = true) (hz : z.toInt = (n : Int)) (hcap : n ≤ cap) (hb8 : cap * 8 ≤ 536870912) (hd : decode bytes pc = .ok (.newarray .char, 2)) (hp : pc + 2 = pc') (hc : cells + 1 ≤ R.cells) (hl : slots + cap ≤ R.slots)
    (kk : ∀ h' a, a = h.size → h0.size ≤ a → Keep h h' [] → ArI Z h' a .char n (fun _ => 0) → G p l e R s m args below meth c n0 h0 ws Q (cells + 1) (slots + cap) h' (mkF m pc' ls (.ref a :: st))) : G p l e R s m args below meth c n0 h0 ws Q cells slots h (mkF m pc ls (.int z :: st)) := fun T locs k n' X hk hn eT N K => by
  subst hp
  have hr := rng32 z
  have h1 : z.toNatClampNeg = n := by show z.toInt.toNat = n; omega
  obtain ⟨T', h', cA, X', e', E', A', stp⟩ := Jvm.RoadKit.newP X B.1.1 B.1.2.2.2.2 (aty := .char) w eT (g := (mkF m pc ls (.int z :: st))) rfl (hb B.1.2.1 hd) rfl (fun q => by rw [Int32.lt_iff_toInt_lt, Int32.toInt_zero] at q; omega) (cap := cap) (by omega) hb8 (Nat.le_trans (Nat.add_le_add_right hk 1) hc) (Nat.le_trans (Nat.add_le_add_right hn cap) hl)
  obtain ⟨U, v, L, hs, r⟩ := kk h' h.size rfl K.1 ((Keep.refl h []).ext E') (own_newI rfl A' hz) T' locs (k + 1) (n' + cap) X' (Nat.add_le_add_right hk 1) (Nat.add_le_add_right hn cap) e' N (K.ext E')
  exact ⟨U, v, L, stp U hs, r⟩
theorem own_back {y : MethodName} {bytes' : ByteArray} {maxL' : Nat} {rt' : Option FieldType} {rm : Room} {as' : Array Value} {ws' : List Addr} {Q' : Option Value → Heap → Prop} {len W : Nat} (B : Cx p s m meth c Z own nm bytes maxL rt n0 h0 ws) (M : Mt l Z y bytes' maxL' rt' [] rm n0 as' h ws' Q') (wc : (Jvm.Cond.code y bytes' maxL' rt').before a0 Z = true) (wz : (Jvm.Cond.initialized y.cls).before a0 Z = true) (hf : rm.frames + 1 ≤ R.frames) (hl : W + (maxL' + 11) + rm.locals ≤ R.locals) :
    Back l R p e below s args y len W (fun A a => a = as' ∧ A.U.heap = h ∧ A.cells + rm.cells ≤ R.cells ∧ A.slots + rm.slots ≤ R.slots) (fun A _ v B => ∃ L, (Fr n0 L ∧ Keep h B.U.heap ws' ∧ Q' v B.U.heap) ∧ B.locs = A.locs ++ L ∧ B.cells = A.cells + rm.cells ∧ B.slots = A.slots + rm.slots) :=
  backOf (Q := fun v hh L => Fr n0 L ∧ Keep h hh ws' ∧ Q' v hh) M B.1.2.2.2.2 wc wz hf hl
theorem G.callS {y : MethodName} {bytes' : ByteArray} {maxL' : Nat} {rt' : Option FieldType} {rm : Room} {ws' : List Addr} {Q' : Option Value → Heap → Prop} {index W : Nat} {argsL rest : List Value} (B : Cx p s m meth c Z own nm bytes maxL rt n0 h0 ws) (w1 : (Jvm.Cond.methodLink own index y).before a0 Z = true) (w2 : (Jvm.Cond.static y).before a0 Z = true) (M : Mt l Z y bytes' maxL' rt' [] rm n0 argsL.toArray h ws' Q') (hws : ∀ x ∈ ws', x ∈ ws ∨ h0.size ≤ x) (wc : (Jvm.Cond.code y bytes' maxL' rt').before a0 Z = true) (wz : (Jvm.Cond.initialized y.cls).before a0 Z = true) (hy : y.cls ≠ "java/lang/invoke/MethodHandle" ∧ y.cls ≠ "java/lang/invoke/VarHandle") (hsz : ls.size = maxL) (hst : st = argsL.reverse ++ rest) (hlen : ∀ sig, parseMethodDescriptor y.desc = some sig → argsL.length = sig.parameters.length) (hf : rm.frames + 1 ≤ R.frames) (hW : 2 * 0 + (rest.map fun v => v.category).sum ≤ W) (hl : W + (maxL' + 11) + rm.locals ≤ R.locals) (hc : cells + rm.cells ≤ R.cells) (hs : slots + rm.slots ≤ R.slots) (hd : decode bytes pc = .ok (.invokestatic index, 3)) (hp : pc + 3 = pc')
    (kk : ∀ v h', Keep h h' ws' → Q' v h' → G p l e R s m args below meth c n0 h0 ws Q (cells + rm.cells) (slots + rm.slots) h' (mkF m pc' ls (v.toList ++ rest))) : G p l e R s m args below meth c n0 h0 ws Q cells slots h (mkF m pc ls st) := fun T locs k n X hk hn eT N K => by
  subst hp hst
  obtain ⟨v, _, ⟨T', L', k', n'⟩, -, X', ⟨Lc, hQ, l1, y1, z1⟩, stp⟩ := Jvm.LawKit.callS X B.1.1 (y := y) B.1.2.2.2.1 (mvT B.1.2.2.2.2 w1) (mvT B.1.2.2.2.2 w2) (mvT B.1.2.2.2.2 wz) (mvT B.1.2.2.2.2 wc) hy (own_back (W := W) B M wc wz hf hl) (g := (mkF m pc ls (argsL.reverse ++ rest))) rfl (hsz.trans B.1.2.2.1.symm) (argsL := argsL) (rest := rest) hlen rfl hW (hb B.1.2.1 hd) (fun _ _ => ⟨rfl, eT, Nat.le_trans (Nat.add_le_add_right hk _) hc, Nat.le_trans (Nat.add_le_add_right hn _) hs⟩)
  dsimp only [Pt.U, Pt.locs, Pt.cells, Pt.slots] at X' l1 y1 z1 stp hQ
  subst l1 y1 z1
  obtain ⟨U, v, L, hs', r⟩ := kk v T'.heap hQ.2.1 hQ.2.2 T' (locs ++ Lc) _ _ X' (Nat.add_le_add_right hk _) (Nat.add_le_add_right hn _) rfl (Fr.app N hQ.1) (K.trans hQ.2.1 hws)
  exact ⟨U, v, L, stp _ hs', r⟩
theorem G.callC {a : Addr} {y : MethodName} {bytes' : ByteArray} {maxL' : Nat} {rt' : Option FieldType} {rm : Room} {ws' : List Addr} {Q' : Option Value → Heap → Prop} {index W : Nat} {argsL rest : List Value} (B : Cx p s m meth c Z own nm bytes maxL rt n0 h0 ws) (w0 : y.name = "<init>") (w1 : (Jvm.Cond.methodLink own index y).before a0 Z = true) (w2 : (Jvm.Cond.instanceMethod y).before a0 Z = true) (hrt : rt' = none) (M : Mt l Z y bytes' maxL' rt' [] rm n0 (.ref a :: argsL).toArray h ws' Q') (hws : ∀ x ∈ ws', x ∈ ws ∨ h0.size ≤ x) (wc : (Jvm.Cond.code y bytes' maxL' rt').before a0 Z = true) (wz : (Jvm.Cond.initialized y.cls).before a0 Z = true) (hy : y.cls ≠ "java/lang/invoke/MethodHandle" ∧ y.cls ≠ "java/lang/invoke/VarHandle") (hsz : ls.size = maxL) (hst : st = argsL.reverse ++ .ref a :: rest) (hlen : ∀ sig, parseMethodDescriptor y.desc = some sig → argsL.length = sig.parameters.length) (hf : rm.frames + 1 ≤ R.frames) (hW : 2 * 0 + (rest.map fun v => v.category).sum ≤ W) (hl : W + (maxL' + 11) + rm.locals ≤ R.locals) (hc : cells + rm.cells ≤ R.cells) (hs : slots + rm.slots ≤ R.slots) (hd : decode bytes pc = .ok (.invokespecial index, 3)) (hp : pc + 3 = pc')
    (kk : ∀ v h', Keep h h' ws' → Q' v h' → G p l e R s m args below meth c n0 h0 ws Q (cells + rm.cells) (slots + rm.slots) h' (mkF m pc' ls (v.toList ++ rest))) : G p l e R s m args below meth c n0 h0 ws Q cells slots h (mkF m pc ls st) := fun T locs k n X hk hn eT N K => by
  subst hp hst
  subst hrt
  obtain ⟨v, _, ⟨T', L', k', n'⟩, -, X', ⟨Lc, hQ, l1, y1, z1⟩, stp⟩ := X.specialBack B.1.1 (y := y) w0 B.1.2.2.2.1 (mvT B.1.2.2.2.2 w1) (mvT B.1.2.2.2.2 w2) (mvT B.1.2.2.2.2 wc) hy (own_back (W := W) B M wc wz hf hl) (g := (mkF m pc ls (argsL.reverse ++ .ref a :: rest))) rfl (hsz.trans B.1.2.2.1.symm) (Steps.refl _) (a := a) (argsL := argsL) (rest := rest) hlen rfl hW (hb B.1.2.1 hd) (fun _ _ => ⟨rfl, eT, Nat.le_trans (Nat.add_le_add_right hk _) hc, Nat.le_trans (Nat.add_le_add_right hn _) hs⟩)
  dsimp only [Pt.U, Pt.locs, Pt.cells, Pt.slots] at X' l1 y1 z1 stp hQ
  subst l1 y1 z1
  obtain ⟨U, v, L, hs', r⟩ := kk v T'.heap hQ.2.1 hQ.2.2 T' (locs ++ Lc) _ _ X' (Nat.add_le_add_right hk _) (Nat.add_le_add_right hn _) rfl (Fr.app N hQ.1) (K.trans hQ.2.1 hws)
  exact ⟨U, v, L, stp.trans hs', r⟩
theorem G.callV {a : Addr} {y : MethodName} {bytes' : ByteArray} {maxL' : Nat} {rt' : Option FieldType} {rm : Room} {ws' : List Addr} {Q' : Option Value → Heap → Prop} {index W : Nat} {argsL rest : List Value} (B : Cx p s m meth c Z own nm bytes maxL rt n0 h0 ws) (E : Exa Z h a y.cls) (w1 : (Jvm.Cond.methodLink own index y).before a0 Z = true) (w2 : (Jvm.Cond.declares y).before a0 Z = true) (w3 : (Jvm.Cond.selects y.cls y y).before a0 Z = true) (w4 : (Jvm.Cond.instanceMethod y).before a0 Z = true) (M : Mt l Z y bytes' maxL' rt' [] rm n0 (.ref a :: argsL).toArray h ws' Q') (hws : ∀ x ∈ ws', x ∈ ws ∨ h0.size ≤ x) (wc : (Jvm.Cond.code y bytes' maxL' rt').before a0 Z = true) (wz : (Jvm.Cond.initialized y.cls).before a0 Z = true) (hy : y.cls ≠ "java/lang/invoke/MethodHandle" ∧ y.cls ≠ "java/lang/invoke/VarHandle") (hsz : ls.size = maxL) (hst : st = argsL.reverse ++ .ref a :: rest) (hlen : ∀ sig, parseMethodDescriptor y.desc = some sig → argsL.length = sig.parameters.length) (hf : rm.frames + 1 ≤ R.frames) (hW : 2 * 0 + (rest.map fun v => v.category).sum ≤ W) (hl : W + (maxL' + 11) + rm.locals ≤ R.locals) (hc : cells + rm.cells ≤ R.cells) (hs : slots + rm.slots ≤ R.slots) (hd : decode bytes pc = .ok (.invokevirtual index, 3)) (hp : pc + 3 = pc')
    (kk : ∀ v h', Keep h h' ws' → Q' v h' → G p l e R s m args below meth c n0 h0 ws Q (cells + rm.cells) (slots + rm.slots) h' (mkF m pc' ls (v.toList ++ rest))) : G p l e R s m args below meth c n0 h0 ws Q cells slots h (mkF m pc ls st) := fun T locs k n X hk hn eT N K => by
  subst hp hst
  obtain ⟨cq, kq, qa, qb, qc⟩ := isOf B.1.2.2.2.2 eT E
  obtain ⟨v, _, ⟨T', L', k', n'⟩, -, X', ⟨Lc, hQ, l1, y1, z1⟩, stp⟩ := X.virtualBack B.1.1 (y := y) (z := y) B.1.2.2.2.1 (mvT B.1.2.2.2.2 w1) (mvT B.1.2.2.2.2 w2) (notFace_of_selects (args := #[]) (mvT B.1.2.2.2.2 w3)) (mvT B.1.2.2.2.2 w3) (mvT B.1.2.2.2.2 w4) hy (own_back (W := W) B M wc wz hf hl) qa qc (g := (mkF m pc ls (argsL.reverse ++ .ref a :: rest))) rfl (hsz.trans B.1.2.2.1.symm) (Steps.refl _) (argsL := argsL) (rest := rest) hlen rfl hW (hb B.1.2.1 hd) (fun _ _ => ⟨rfl, eT, Nat.le_trans (Nat.add_le_add_right hk _) hc, Nat.le_trans (Nat.add_le_add_right hn _) hs⟩)
  dsimp only [Pt.U, Pt.locs, Pt.cells, Pt.slots] at X' l1 y1 z1 stp hQ
  subst l1 y1 z1
  obtain ⟨U, v, L, hs', r⟩ := kk v T'.heap hQ.2.1 hQ.2.2 T' (locs ++ Lc) _ _ X' (Nat.add_le_add_right hk _) (Nat.add_le_add_right hn _) rfl (Fr.app N hQ.1) (K.trans hQ.2.1 hws)
  exact ⟨U, v, L, stp.trans hs', r⟩
theorem own_sel {args : Array Value} {s : State} {y z : MethodName} {K : String} (hz : (Jvm.Cond.selects K z z).before args s = true) (hcl : z.cls = y.cls) (hinst : (Jvm.Cond.instanceMethod y).before args s = true) (hpriv : s.PrivateAt y) (hy : y.cls ≠ "java/lang/invoke/MethodHandle" ∧ y.cls ≠ "java/lang/invoke/VarHandle") : (Jvm.Cond.selects y.cls y y).before args s = true := by
  obtain ⟨mk, meth, hnamed, hmeth, hst, hab⟩ := Cond.instanceMethod_spec hinst
  obtain ⟨c2, r2, m2, q1, q2, q3, q4, kP, hkP, hkPi⟩ := Cond.selects_spec hz
  have h1 := findClass_of_methodNamed hnamed
  have h2 := findClass_of_methodNamed q3
  rw [hcl, h1] at h2
  have h3 : mk.cls = m2.cls := Option.some.inj h2
  rw [← h3] at hkP
  have h4 := State.methodFound?_of_named hnamed hy
  have h5 := selectMethod_private (p := {}) (c := mk.cls) hmeth (hpriv mk meth hnamed hmeth)
  simp [Cond.before, Cond.holds, Cond.value, h1, h4, hnamed, h5, hkP, hkPi]
theorem G.callP {a : Addr} {z : MethodName} {K : String} {y : MethodName} {bytes' : ByteArray} {maxL' : Nat} {rt' : Option FieldType} {rm : Room} {ws' : List Addr} {Q' : Option Value → Heap → Prop} {index W : Nat} {argsL rest : List Value} (B : Cx p s m meth c Z own nm bytes maxL rt n0 h0 ws) (E : Exa Z h a y.cls) (w1 : (Jvm.Cond.methodLink own index y).before a0 Z = true) (w2 : (Jvm.Cond.privateMethod y).before a0 Z = true) (w3 : (Jvm.Cond.selects K z z).before a0 Z = true) (hcl : z.cls = y.cls) (w4 : (Jvm.Cond.instanceMethod y).before a0 Z = true) (M : Mt l Z y bytes' maxL' rt' [] rm n0 (.ref a :: argsL).toArray h ws' Q') (hws : ∀ x ∈ ws', x ∈ ws ∨ h0.size ≤ x) (wc : (Jvm.Cond.code y bytes' maxL' rt').before a0 Z = true) (wz : (Jvm.Cond.initialized y.cls).before a0 Z = true) (hy : y.cls ≠ "java/lang/invoke/MethodHandle" ∧ y.cls ≠ "java/lang/invoke/VarHandle") (hsz : ls.size = maxL) (hst : st = argsL.reverse ++ .ref a :: rest) (hlen : ∀ sig, parseMethodDescriptor y.desc = some sig → argsL.length = sig.parameters.length) (hf : rm.frames + 1 ≤ R.frames) (hW : 2 * 0 + (rest.map fun v => v.category).sum ≤ W) (hl : W + (maxL' + 11) + rm.locals ≤ R.locals) (hc : cells + rm.cells ≤ R.cells) (hs : slots + rm.slots ≤ R.slots) (hd : decode bytes pc = .ok (.invokevirtual index, 3)) (hp : pc + 3 = pc')
    (kk : ∀ v h', Keep h h' ws' → Q' v h' → G p l e R s m args below meth c n0 h0 ws Q (cells + rm.cells) (slots + rm.slots) h' (mkF m pc' ls (v.toList ++ rest))) : G p l e R s m args below meth c n0 h0 ws Q cells slots h (mkF m pc ls st) := fun T locs k n X hk hn eT N K => by
  subst hp hst
  obtain ⟨cq, q1, q2⟩ := E.cell
  obtain ⟨v, _, ⟨T', L', k', n'⟩, -, X', ⟨Lc, hQ, l1, y1, z1⟩, stp⟩ := X.privateBack B.1.1 (y := y) B.1.2.2.2.1 (mvT B.1.2.2.2.2 w1) (mvT B.1.2.2.2.2 w4) (own_sel (mvT B.1.2.2.2.2 w3) hcl (mvT B.1.2.2.2.2 w4) (Cond.privateMethod_at (mvP B.1.2.2.2.2 w2 (args := #[]))) hy) (Cond.privateMethod_at (mvP B.1.2.2.2.2 w2 (args := #[]))) (mvT B.1.2.2.2.2 wc) hy (own_back (W := W) B M wc wz hf hl) (g := (mkF m pc ls (argsL.reverse ++ .ref a :: rest))) rfl (hsz.trans B.1.2.2.1.symm) (Steps.refl _) (a := a) (by rw [eT]; exact q1) q2 (argsL := argsL) (rest := rest) hlen rfl hW (hb B.1.2.1 hd) (fun _ _ => ⟨rfl, eT, Nat.le_trans (Nat.add_le_add_right hk _) hc, Nat.le_trans (Nat.add_le_add_right hn _) hs⟩)
  dsimp only [Pt.U, Pt.locs, Pt.cells, Pt.slots] at X' l1 y1 z1 stp hQ
  subst l1 y1 z1
  obtain ⟨U, v, L, hs', r⟩ := kk v T'.heap hQ.2.1 hQ.2.2 T' (locs ++ Lc) _ _ X' (Nat.add_le_add_right hk _) (Nat.add_le_add_right hn _) rfl (Fr.app N hQ.1) (K.trans hQ.2.1 hws)
  exact ⟨U, v, L, stp.trans hs', r⟩
end OwnKit
def O_G (Z : State) (h : Heap) (a : Addr) (v0 : Int32) (v1 : Value) (v2 : Int32) : Prop := Exa Z h a "com/example/lacuna/lacuna/Ghosts" ∧ Fld Z h a "com/example/lacuna/lacuna/Ghosts" "length" "I" (.int v0) ∧ Fld Z h a "com/example/lacuna/lacuna/Ghosts" "slots" "[J" v1 ∧ Fld Z h a "com/example/lacuna/lacuna/Ghosts" "added" "I" (.int v2)
theorem O_G.lt {Z : State} {h : Heap} {a : Addr} {v0 : Int32} {v1 : Value} {v2 : Int32} (O : O_G Z h a v0 v1 v2) : a < h.size := Exa.lt O.1
theorem O_G.keep {Z : State} {h h' : Heap} {a : Addr} {vs : List Addr} {v0 : Int32} {v1 : Value} {v2 : Int32} (O : O_G Z h a v0 v1 v2) (K : Keep h h' vs) (q : a ∉ vs) : O_G Z h' a v0 v1 v2 := by
  obtain ⟨g0, g1, g2, g3⟩ := O
  exact ⟨g0.keep K, g1.keep K q, g2.keep K q, g3.keep K q⟩
theorem O_G.set_0 {Z : State} {a0 : Array Value} {h h' : Heap} {a : Addr} {v0 : Int32} {v1 : Value} {v2 : Int32} {v : Int32} (hw : ∀ d ∈ tables_1, d.before a0 Z = true) (O : O_G Z h a v0 v1 v2) (W : Wr h h' a (Jvm.RoadKit.slotOf Z "com/example/lacuna/lacuna/Ghosts" "length" "I") (.int v)) : O_G Z h' a v v1 v2 := by
  obtain ⟨g0, g1, g2, g3⟩ := O
  exact ⟨g0.wr W, g1.same W, g2.other W (Or.inr (slot_ne (C := "com/example/lacuna/lacuna/Ghosts") (Or.inl (hw _ (List.mem_of_getElem? (i := 36) rfl))) (Or.inr (hw _ (List.mem_of_getElem? (i := 29) rfl))) (by decide) (t := (.array .long)) (t' := .int) (by decide) (by decide))), g3.other W (Or.inr (slot_ne (C := "com/example/lacuna/lacuna/Ghosts") (Or.inl (hw _ (List.mem_of_getElem? (i := 44) rfl))) (Or.inr (hw _ (List.mem_of_getElem? (i := 29) rfl))) (by decide) (t := .int) (t' := .int) (by decide) (by decide)))⟩
theorem O_G.set_1 {Z : State} {a0 : Array Value} {h h' : Heap} {a : Addr} {v0 : Int32} {v1 : Value} {v2 : Int32} {v : Value} (hw : ∀ d ∈ tables_1, d.before a0 Z = true) (O : O_G Z h a v0 v1 v2) (W : Wr h h' a (Jvm.RoadKit.slotOf Z "com/example/lacuna/lacuna/Ghosts" "slots" "[J") v) : O_G Z h' a v0 v v2 := by
  obtain ⟨g0, g1, g2, g3⟩ := O
  exact ⟨g0.wr W, g1.other W (Or.inr (slot_ne (C := "com/example/lacuna/lacuna/Ghosts") (Or.inr (hw _ (List.mem_of_getElem? (i := 29) rfl))) (Or.inl (hw _ (List.mem_of_getElem? (i := 36) rfl))) (by decide) (t := .int) (t' := (.array .long)) (by decide) (by decide))), g2.same W, g3.other W (Or.inr (slot_ne (C := "com/example/lacuna/lacuna/Ghosts") (Or.inl (hw _ (List.mem_of_getElem? (i := 44) rfl))) (Or.inl (hw _ (List.mem_of_getElem? (i := 36) rfl))) (by decide) (t := .int) (t' := (.array .long)) (by decide) (by decide)))⟩
theorem O_G.set_2 {Z : State} {a0 : Array Value} {h h' : Heap} {a : Addr} {v0 : Int32} {v1 : Value} {v2 : Int32} {v : Int32} (hw : ∀ d ∈ tables_1, d.before a0 Z = true) (O : O_G Z h a v0 v1 v2) (W : Wr h h' a (Jvm.RoadKit.slotOf Z "com/example/lacuna/lacuna/Ghosts" "added" "I") (.int v)) : O_G Z h' a v0 v1 v := by
  obtain ⟨g0, g1, g2, g3⟩ := O
  exact ⟨g0.wr W, g1.other W (Or.inr (slot_ne (C := "com/example/lacuna/lacuna/Ghosts") (Or.inr (hw _ (List.mem_of_getElem? (i := 29) rfl))) (Or.inl (hw _ (List.mem_of_getElem? (i := 44) rfl))) (by decide) (t := .int) (t' := .int) (by decide) (by decide))), g2.other W (Or.inr (slot_ne (C := "com/example/lacuna/lacuna/Ghosts") (Or.inl (hw _ (List.mem_of_getElem? (i := 36) rfl))) (Or.inl (hw _ (List.mem_of_getElem? (i := 44) rfl))) (by decide) (t := (.array .long)) (t' := .int) (by decide) (by decide))), g3.same W⟩
theorem d3_0 : decode jdk_29_method_70_code 0 = .ok (.lload_n 0, 1) := by decide +kernel
theorem d3_1 : decode jdk_29_method_70_code 1 = .ok (.lload_n 2, 1) := by decide +kernel
theorem d3_2 : decode jdk_29_method_70_code 2 = .ok (.lcmp, 1) := by decide +kernel
theorem d3_3 : decode jdk_29_method_70_code 3 = .ok (.ifCond .gt 7, 3) := by decide +kernel
theorem d3_6 : decode jdk_29_method_70_code 6 = .ok (.lload_n 0, 1) := by decide +kernel
theorem d3_7 : decode jdk_29_method_70_code 7 = .ok (.goto 4, 3) := by decide +kernel
theorem d3_10 : decode jdk_29_method_70_code 10 = .ok (.lload_n 2, 1) := by decide +kernel
theorem d3_11 : decode jdk_29_method_70_code 11 = .ok (.lreturn, 1) := by decide +kernel
theorem pn_3 : plainFor (⟨"java/lang/Math", "min", "(JJ)J"⟩ : MethodName) = true := Jvm.Free.JP.mathPlain rfl (by decide +kernel)
theorem ef_3 (m : MethodId) (q0 : Int64) (q1 : Int64) : entryFrame m #[(.long q0), (.long q1)] 4 = mkF m 0 #[.val (.long q0), .second, .val (.long q1), .second] [] := by first | (simp [entryFrame, mkF, argsToLocals, Value.category]; done) | rfl
def Qq3 (Z : State) (q0 : Int64) (q1 : Int64)  (h0 : Heap) : Int64 → Heap → Prop := fun r h' => h0 = h' ∧ ((q0.toInt ≤ q1.toInt ∧ r = q0) ∨ (q1.toInt < q0.toInt ∧ r = q1))
abbrev Gg3 (p : Program) (l : Launch) (e : Env) (s : State) (m : MethodId) (below : List Frame) (meth : Method) (c : Code) (n0 : Nat) (h0 : Heap) (Z : State) (q0 : Int64) (q1 : Int64)  (cc ss : Nat) (hh : Heap) (gg : JFrame) : Prop := G p l e ({ frames := 0, cells := 0, slots := 0, locals := 0 } : Room) s m #[(.long q0), (.long q1)] below meth c n0 h0 [] (RJ (Qq3 Z q0 q1  h0)) cc ss hh gg
set_option maxRecDepth 65536 in
set_option maxHeartbeats 40000000 in
theorem rm3 (l : Launch) (Z : State) (a0 : Array Value) (hw : ∀ d ∈ tables_1, d.before a0 Z = true) (q0 : Int64) (q1 : Int64)  (h0 : Heap) (n0 : Nat) (hn : n0 ≤ h0.size)  :
    Mt l Z (⟨"java/lang/Math", "min", "(JJ)J"⟩ : MethodName) jdk_29_method_70_code 4 (some .long) [] ({ frames := 0, cells := 0, slots := 0, locals := 0 } : Room) n0 #[(.long q0), (.long q1)] h0 [] (RJ (Qq3 Z q0 q1  h0)) := by
  refine Mt.intro pn_3 hn (fun x hx => nomatch hx) ?_
  have hz : h0.size ≤ h0.size := Nat.le_refl _
  intro p e s m below meth c B
  refine G.entry (ef_3 m q0 q1) ?_
  show Gg3 p l e s m below meth c n0 h0 Z q0 q1  0 0 h0 (mkF m 0 #[.val (.long q0), .second, .val (.long q1), .second] [])
  refine G.lloadN B d3_0 (v := q0) rfl (pc' := 1) rfl ?_
  refine G.lloadN B d3_1 (v := q1) rfl (pc' := 2) rfl ?_
  refine G.lcmp_gt B d3_2 rfl d3_3 (by decide) (pcT := 10) (by decide) (pc' := 6) rfl (fun (hc2 : q1.toInt < q0.toInt) => ?_) (fun (hc2 : q0.toInt ≤ q1.toInt) => ?_)
  · refine G.lloadN B d3_10 (v := q1) rfl (pc' := 11) rfl ?_
    exact G.retJ B d3_11 (by decide) (by decide) ⟨rfl, Or.inr ⟨hc2, rfl⟩⟩
  · refine G.lloadN B d3_6 (v := q0) rfl (pc' := 7) rfl ?_
    refine G.goto B d3_7 (by decide) (pc' := 11) (by decide) ?_
    exact G.retJ B d3_11 (by decide) (by decide) ⟨rfl, Or.inl ⟨hc2, rfl⟩⟩
theorem d4_0 : decode jdk_29_method_66_code 0 = .ok (.lload_n 0, 1) := by decide +kernel
theorem d4_1 : decode jdk_29_method_66_code 1 = .ok (.lload_n 2, 1) := by decide +kernel
theorem d4_2 : decode jdk_29_method_66_code 2 = .ok (.lcmp, 1) := by decide +kernel
theorem d4_3 : decode jdk_29_method_66_code 3 = .ok (.ifCond .lt 7, 3) := by decide +kernel
theorem d4_6 : decode jdk_29_method_66_code 6 = .ok (.lload_n 0, 1) := by decide +kernel
theorem d4_7 : decode jdk_29_method_66_code 7 = .ok (.goto 4, 3) := by decide +kernel
theorem d4_10 : decode jdk_29_method_66_code 10 = .ok (.lload_n 2, 1) := by decide +kernel
theorem d4_11 : decode jdk_29_method_66_code 11 = .ok (.lreturn, 1) := by decide +kernel
theorem pn_4 : plainFor (⟨"java/lang/Math", "max", "(JJ)J"⟩ : MethodName) = true := Jvm.Free.JP.mathPlain rfl (by decide +kernel)
theorem ef_4 (m : MethodId) (q0 : Int64) (q1 : Int64) : entryFrame m #[(.long q0), (.long q1)] 4 = mkF m 0 #[.val (.long q0), .second, .val (.long q1), .second] [] := by first | (simp [entryFrame, mkF, argsToLocals, Value.category]; done) | rfl
def Qq4 (Z : State) (q0 : Int64) (q1 : Int64)  (h0 : Heap) : Int64 → Heap → Prop := fun r h' => h0 = h' ∧ ((q0.toInt < q1.toInt ∧ r = q1) ∨ (q1.toInt ≤ q0.toInt ∧ r = q0))
abbrev Gg4 (p : Program) (l : Launch) (e : Env) (s : State) (m : MethodId) (below : List Frame) (meth : Method) (c : Code) (n0 : Nat) (h0 : Heap) (Z : State) (q0 : Int64) (q1 : Int64)  (cc ss : Nat) (hh : Heap) (gg : JFrame) : Prop := G p l e ({ frames := 0, cells := 0, slots := 0, locals := 0 } : Room) s m #[(.long q0), (.long q1)] below meth c n0 h0 [] (RJ (Qq4 Z q0 q1  h0)) cc ss hh gg
set_option maxRecDepth 65536 in
set_option maxHeartbeats 40000000 in
theorem rm4 (l : Launch) (Z : State) (a0 : Array Value) (hw : ∀ d ∈ tables_1, d.before a0 Z = true) (q0 : Int64) (q1 : Int64)  (h0 : Heap) (n0 : Nat) (hn : n0 ≤ h0.size)  :
    Mt l Z (⟨"java/lang/Math", "max", "(JJ)J"⟩ : MethodName) jdk_29_method_66_code 4 (some .long) [] ({ frames := 0, cells := 0, slots := 0, locals := 0 } : Room) n0 #[(.long q0), (.long q1)] h0 [] (RJ (Qq4 Z q0 q1  h0)) := by
  refine Mt.intro pn_4 hn (fun x hx => nomatch hx) ?_
  have hz : h0.size ≤ h0.size := Nat.le_refl _
  intro p e s m below meth c B
  refine G.entry (ef_4 m q0 q1) ?_
  show Gg4 p l e s m below meth c n0 h0 Z q0 q1  0 0 h0 (mkF m 0 #[.val (.long q0), .second, .val (.long q1), .second] [])
  refine G.lloadN B d4_0 (v := q0) rfl (pc' := 1) rfl ?_
  refine G.lloadN B d4_1 (v := q1) rfl (pc' := 2) rfl ?_
  refine G.lcmp_lt B d4_2 rfl d4_3 (by decide) (pcT := 10) (by decide) (pc' := 6) rfl (fun (hc2 : q0.toInt < q1.toInt) => ?_) (fun (hc2 : q1.toInt ≤ q0.toInt) => ?_)
  · refine G.lloadN B d4_10 (v := q1) rfl (pc' := 11) rfl ?_
    exact G.retJ B d4_11 (by decide) (by decide) ⟨rfl, Or.inl ⟨hc2, rfl⟩⟩
  · refine G.lloadN B d4_6 (v := q0) rfl (pc' := 7) rfl ?_
    refine G.goto B d4_7 (by decide) (pc' := 11) (by decide) ?_
    exact G.retJ B d4_11 (by decide) (by decide) ⟨rfl, Or.inr ⟨hc2, rfl⟩⟩
def Nlz (x z : Int32) : Prop := (x.toInt < 2 ∧ z = 31) ∨ (2 ≤ x.toInt ∧ x.toInt < 4 ∧ z = 30) ∨ (4 ≤ x.toInt ∧ x.toInt < 8 ∧ z = 29) ∨ (8 ≤ x.toInt ∧ z = 28)
def Hob (x z : Int32) : Prop := (x.toInt < 2 ∧ z = 1) ∨ (2 ≤ x.toInt ∧ x.toInt < 4 ∧ z = 2) ∨ (4 ≤ x.toInt ∧ x.toInt < 8 ∧ z = 4) ∨ (8 ≤ x.toInt ∧ z = 8)
def Len (k : Int64) (len : Int32) : Prop := (k.toInt = 1 ∧ len = 2) ∨ (k.toInt = 2 ∧ len = 4) ∨ (3 ≤ k.toInt ∧ k.toInt ≤ 4 ∧ len = 8) ∨ (5 ≤ k.toInt ∧ k.toInt ≤ 8 ∧ len = 16)
theorem own_n1 (x : Int32) (hx : 0 < x.toInt ∧ x.toInt < 16) (h : x.toInt < 4) : Nlz x ((31 : Int32) - ((x.toUInt32 >>> ((1 : Int32) &&& 31).toUInt32).toInt32)) := by
  have h1 := c_iushr x 1 1 (by decide) (by decide)
  have h2 := c_isub 31 ((x.toUInt32 >>> ((1 : Int32) &&& 31).toUInt32).toInt32)
  have h3 := rng32 ((31 : Int32) - ((x.toUInt32 >>> ((1 : Int32) &&& 31).toUInt32).toInt32))
  have h4 : (31 : Int32).toInt = 31 := by decide
  have h5 : (30 : Int32).toInt = 30 := by decide
  unfold Nlz
  rw [← Int32.toInt_inj, ← Int32.toInt_inj, h4, h5]
  omega
theorem own_n2 (x : Int32) (hx : 0 < x.toInt ∧ x.toInt < 16) (h : 4 ≤ x.toInt) : Nlz x ((29 : Int32) - ((((x.toUInt32 >>> ((2 : Int32) &&& 31).toUInt32).toInt32).toUInt32 >>> ((1 : Int32) &&& 31).toUInt32).toInt32)) := by
  have h0 := c_iushr x 2 2 (by decide) (by decide)
  have h1 := c_iushr ((x.toUInt32 >>> ((2 : Int32) &&& 31).toUInt32).toInt32) 1 1 (by decide) (by decide)
  have h2 := c_isub 29 ((((x.toUInt32 >>> ((2 : Int32) &&& 31).toUInt32).toInt32).toUInt32 >>> ((1 : Int32) &&& 31).toUInt32).toInt32)
  have h3 := rng32 ((29 : Int32) - ((((x.toUInt32 >>> ((2 : Int32) &&& 31).toUInt32).toInt32).toUInt32 >>> ((1 : Int32) &&& 31).toUInt32).toInt32))
  have h4 : (29 : Int32).toInt = 29 := by decide
  have h5 : (28 : Int32).toInt = 28 := by decide
  unfold Nlz
  refine Or.inr (Or.inr ?_)
  rw [← Int32.toInt_inj, ← Int32.toInt_inj, h4, h5]
  omega
theorem d6_0 : decode jdk_33_method_47_code 0 = .ok (.iload_n 0, 1) := by decide +kernel
theorem d6_1 : decode jdk_33_method_47_code 1 = .ok (.ifCond .gt 14, 3) := by decide +kernel
theorem d6_4 : decode jdk_33_method_47_code 4 = .ok (.iload_n 0, 1) := by decide +kernel
theorem d6_5 : decode jdk_33_method_47_code 5 = .ok (.ifCond .ne 8, 3) := by decide +kernel
theorem d6_8 : decode jdk_33_method_47_code 8 = .ok (.bipush 32, 2) := by decide +kernel
theorem d6_10 : decode jdk_33_method_47_code 10 = .ok (.goto 4, 3) := by decide +kernel
theorem d6_13 : decode jdk_33_method_47_code 13 = .ok (.iconst 0, 1) := by decide +kernel
theorem d6_14 : decode jdk_33_method_47_code 14 = .ok (.ireturn, 1) := by decide +kernel
theorem d6_15 : decode jdk_33_method_47_code 15 = .ok (.bipush 31, 2) := by decide +kernel
theorem d6_17 : decode jdk_33_method_47_code 17 = .ok (.istore_n 1, 1) := by decide +kernel
theorem d6_18 : decode jdk_33_method_47_code 18 = .ok (.iload_n 0, 1) := by decide +kernel
theorem d6_19 : decode jdk_33_method_47_code 19 = .ok (.ldc_w 264, 3) := by decide +kernel
theorem d6_22 : decode jdk_33_method_47_code 22 = .ok (.if_icmp .lt 11, 3) := by decide +kernel
theorem d6_25 : decode jdk_33_method_47_code 25 = .ok (.iinc 1 (-16), 3) := by decide +kernel
theorem d6_28 : decode jdk_33_method_47_code 28 = .ok (.iload_n 0, 1) := by decide +kernel
theorem d6_29 : decode jdk_33_method_47_code 29 = .ok (.bipush 16, 2) := by decide +kernel
theorem d6_31 : decode jdk_33_method_47_code 31 = .ok (.iushr, 1) := by decide +kernel
theorem d6_32 : decode jdk_33_method_47_code 32 = .ok (.istore_n 0, 1) := by decide +kernel
theorem d6_33 : decode jdk_33_method_47_code 33 = .ok (.iload_n 0, 1) := by decide +kernel
theorem d6_34 : decode jdk_33_method_47_code 34 = .ok (.sipush 256, 3) := by decide +kernel
theorem d6_37 : decode jdk_33_method_47_code 37 = .ok (.if_icmp .lt 11, 3) := by decide +kernel
theorem d6_40 : decode jdk_33_method_47_code 40 = .ok (.iinc 1 (-8), 3) := by decide +kernel
theorem d6_43 : decode jdk_33_method_47_code 43 = .ok (.iload_n 0, 1) := by decide +kernel
theorem d6_44 : decode jdk_33_method_47_code 44 = .ok (.bipush 8, 2) := by decide +kernel
theorem d6_46 : decode jdk_33_method_47_code 46 = .ok (.iushr, 1) := by decide +kernel
theorem d6_47 : decode jdk_33_method_47_code 47 = .ok (.istore_n 0, 1) := by decide +kernel
theorem d6_48 : decode jdk_33_method_47_code 48 = .ok (.iload_n 0, 1) := by decide +kernel
theorem d6_49 : decode jdk_33_method_47_code 49 = .ok (.bipush 16, 2) := by decide +kernel
theorem d6_51 : decode jdk_33_method_47_code 51 = .ok (.if_icmp .lt 10, 3) := by decide +kernel
theorem d6_54 : decode jdk_33_method_47_code 54 = .ok (.iinc 1 (-4), 3) := by decide +kernel
theorem d6_57 : decode jdk_33_method_47_code 57 = .ok (.iload_n 0, 1) := by decide +kernel
theorem d6_58 : decode jdk_33_method_47_code 58 = .ok (.iconst 4, 1) := by decide +kernel
theorem d6_59 : decode jdk_33_method_47_code 59 = .ok (.iushr, 1) := by decide +kernel
theorem d6_60 : decode jdk_33_method_47_code 60 = .ok (.istore_n 0, 1) := by decide +kernel
theorem d6_61 : decode jdk_33_method_47_code 61 = .ok (.iload_n 0, 1) := by decide +kernel
theorem d6_62 : decode jdk_33_method_47_code 62 = .ok (.iconst 4, 1) := by decide +kernel
theorem d6_63 : decode jdk_33_method_47_code 63 = .ok (.if_icmp .lt 10, 3) := by decide +kernel
theorem d6_66 : decode jdk_33_method_47_code 66 = .ok (.iinc 1 (-2), 3) := by decide +kernel
theorem d6_69 : decode jdk_33_method_47_code 69 = .ok (.iload_n 0, 1) := by decide +kernel
theorem d6_70 : decode jdk_33_method_47_code 70 = .ok (.iconst 2, 1) := by decide +kernel
theorem d6_71 : decode jdk_33_method_47_code 71 = .ok (.iushr, 1) := by decide +kernel
theorem d6_72 : decode jdk_33_method_47_code 72 = .ok (.istore_n 0, 1) := by decide +kernel
theorem d6_73 : decode jdk_33_method_47_code 73 = .ok (.iload_n 1, 1) := by decide +kernel
theorem d6_74 : decode jdk_33_method_47_code 74 = .ok (.iload_n 0, 1) := by decide +kernel
theorem d6_75 : decode jdk_33_method_47_code 75 = .ok (.iconst 1, 1) := by decide +kernel
theorem d6_76 : decode jdk_33_method_47_code 76 = .ok (.iushr, 1) := by decide +kernel
theorem d6_77 : decode jdk_33_method_47_code 77 = .ok (.isub, 1) := by decide +kernel
theorem d6_78 : decode jdk_33_method_47_code 78 = .ok (.ireturn, 1) := by decide +kernel
theorem pn_6 : plainFor (⟨"java/lang/Integer", "numberOfLeadingZeros", "(I)I"⟩ : MethodName) = true := plainFor_of_name (by first | (simp [plainName, overriddenIn]; done) | decide +kernel)
theorem ef_6 (m : MethodId) (p0 : Int32) : entryFrame m #[(.int p0)] 2 = mkF m 0 #[.val (.int p0), .unset] [] := by first | (simp [entryFrame, mkF, argsToLocals, Value.category]; done) | rfl
def Qq6 (Z : State) (p0 : Int32)  (h0 : Heap) : Int32 → Heap → Prop := fun z h' => h0 = h' ∧ Nlz p0 z
abbrev Gg6 (p : Program) (l : Launch) (e : Env) (s : State) (m : MethodId) (below : List Frame) (meth : Method) (c : Code) (n0 : Nat) (h0 : Heap) (Z : State) (p0 : Int32)  (cc ss : Nat) (hh : Heap) (gg : JFrame) : Prop := G p l e ({ frames := 0, cells := 0, slots := 0, locals := 0 } : Room) s m #[(.int p0)] below meth c n0 h0 [] (RI (Qq6 Z p0  h0)) cc ss hh gg
set_option maxRecDepth 65536 in
set_option maxHeartbeats 40000000 in
theorem rm6 (l : Launch) (Z : State) (a0 : Array Value) (hw : ∀ d ∈ tables_1, d.before a0 Z = true) (p0 : Int32)  (h0 : Heap) (n0 : Nat) (hn : n0 ≤ h0.size) (hx : 0 < p0.toInt ∧ p0.toInt < 16) :
    Mt l Z (⟨"java/lang/Integer", "numberOfLeadingZeros", "(I)I"⟩ : MethodName) jdk_33_method_47_code 2 (some .int) [] ({ frames := 0, cells := 0, slots := 0, locals := 0 } : Room) n0 #[(.int p0)] h0 [] (RI (Qq6 Z p0  h0)) := by
  refine Mt.intro pn_6 hn (fun x hx => nomatch hx) ?_
  have hz : h0.size ≤ h0.size := Nat.le_refl _
  intro p e s m below meth c B
  refine G.entry (ef_6 m p0) ?_
  show Gg6 p l e s m below meth c n0 h0 Z p0  0 0 h0 (mkF m 0 #[.val (.int p0), .unset] [])
  refine G.iloadN B d6_0 (v := p0) rfl (pc' := 1) rfl ?_
  have hc1 : 0 < p0.toInt := hx.1
  refine G.if_gt B d6_1 (by decide) (pcT := 15) (by decide) (pc' := 4) rfl (fun _ => ?_) (fun q => absurd q (by first | exact Int.not_lt.mpr hc1 | exact Int.not_le.mpr hc1))
  refine G.bipush B d6_15 (z := (31 : Int32)) rfl (pc' := 17) rfl ?_
  refine G.istoreN B d6_17 (ls' := #[.val (.int p0), .val (.int (31 : Int32))]) rfl (pc' := 18) rfl ?_
  refine G.iloadN B d6_18 (v := p0) rfl (pc' := 19) rfl ?_
  refine G.ldcW B (hw _ (List.mem_of_getElem? (i := 27) rfl)) d6_19 (pc' := 22) rfl ?_
  have hc22 : p0.toInt < 65536 := by omega
  refine G.icmp_lt B d6_22 (by decide) (pcT := 33) (by decide) (pc' := 25) rfl (fun _ => ?_) (fun q => absurd q (by first | exact Int.not_lt.mpr hc22 | exact Int.not_le.mpr hc22))
  refine G.iloadN B d6_33 (v := p0) rfl (pc' := 34) rfl ?_
  refine G.sipush B d6_34 (z := (256 : Int32)) rfl (pc' := 37) rfl ?_
  have hc37 : p0.toInt < 256 := by omega
  refine G.icmp_lt B d6_37 (by decide) (pcT := 48) (by decide) (pc' := 40) rfl (fun _ => ?_) (fun q => absurd q (by first | exact Int.not_lt.mpr hc37 | exact Int.not_le.mpr hc37))
  refine G.iloadN B d6_48 (v := p0) rfl (pc' := 49) rfl ?_
  refine G.bipush B d6_49 (z := (16 : Int32)) rfl (pc' := 51) rfl ?_
  have hc51 : p0.toInt < 16 := by omega
  refine G.icmp_lt B d6_51 (by decide) (pcT := 61) (by decide) (pc' := 54) rfl (fun _ => ?_) (fun q => absurd q (by first | exact Int.not_lt.mpr hc51 | exact Int.not_le.mpr hc51))
  refine G.iloadN B d6_61 (v := p0) rfl (pc' := 62) rfl ?_
  refine G.iconst B d6_62 (z := (4 : Int32)) rfl (pc' := 63) rfl ?_
  refine G.icmp_lt B d6_63 (by decide) (pcT := 73) (by decide) (pc' := 66) rfl (fun (hc63 : p0.toInt < 4) => ?_) (fun (hc63 : 4 ≤ p0.toInt) => ?_)
  · refine G.iloadN B d6_73 (v := (31 : Int32)) rfl (pc' := 74) rfl ?_
    refine G.iloadN B d6_74 (v := p0) rfl (pc' := 75) rfl ?_
    refine G.iconst B d6_75 (z := (1 : Int32)) rfl (pc' := 76) rfl ?_
    refine G.iushr B d6_76 (pc' := 77) rfl ?_
    refine G.isub B d6_77 (pc' := 78) rfl ?_
    exact G.retI B d6_78 (by decide) (by decide) ⟨rfl, own_n1 p0 hx hc63⟩
  · refine G.iinc B d6_66 (x := (31 : Int32)) rfl (z := (29 : Int32)) rfl (ls' := #[.val (.int p0), .val (.int (29 : Int32))]) rfl (pc' := 69) rfl ?_
    refine G.iloadN B d6_69 (v := p0) rfl (pc' := 70) rfl ?_
    refine G.iconst B d6_70 (z := (2 : Int32)) rfl (pc' := 71) rfl ?_
    refine G.iushr B d6_71 (pc' := 72) rfl ?_
    refine G.istoreN B d6_72 (ls' := #[.val (.int ((p0.toUInt32 >>> ((2 : Int32) &&& 31).toUInt32).toInt32)), .val (.int (29 : Int32))]) rfl (pc' := 73) rfl ?_
    refine G.iloadN B d6_73 (v := (29 : Int32)) rfl (pc' := 74) rfl ?_
    refine G.iloadN B d6_74 (v := ((p0.toUInt32 >>> ((2 : Int32) &&& 31).toUInt32).toInt32)) rfl (pc' := 75) rfl ?_
    refine G.iconst B d6_75 (z := (1 : Int32)) rfl (pc' := 76) rfl ?_
    refine G.iushr B d6_76 (pc' := 77) rfl ?_
    refine G.isub B d6_77 (pc' := 78) rfl ?_
    exact G.retI B d6_78 (by decide) (by decide) ⟨rfl, own_n2 p0 hx hc63⟩
theorem own_hob (x z : Int32) (hx : 0 < x.toInt ∧ x.toInt < 16) (hz : Nlz x z) : Hob x (x &&& (((-2147483648 : Int32).toUInt32 >>> (z &&& 31).toUInt32).toInt32)) := by
  have hc : x = 1 ∨ x = 2 ∨ x = 3 ∨ x = 4 ∨ x = 5 ∨ x = 6 ∨ x = 7 ∨ x = 8 ∨ x = 9 ∨ x = 10 ∨ x = 11 ∨ x = 12 ∨ x = 13 ∨ x = 14 ∨ x = 15 := by
    have h1 : x = Int32.ofInt x.toInt := (Int32.ofInt_toInt x).symm
    generalize x.toInt = i at hx h1
    have : i = 1 ∨ i = 2 ∨ i = 3 ∨ i = 4 ∨ i = 5 ∨ i = 6 ∨ i = 7 ∨ i = 8 ∨ i = 9 ∨ i = 10 ∨ i = 11 ∨ i = 12 ∨ i = 13 ∨ i = 14 ∨ i = 15 := by omega
    subst h1
    rcases this with rfl | rfl | rfl | rfl | rfl | rfl | rfl | rfl | rfl | rfl | rfl | rfl | rfl | rfl | rfl <;> decide
  unfold Nlz at hz
  unfold Hob
  rcases hc with rfl | rfl | rfl | rfl | rfl | rfl | rfl | rfl | rfl | rfl | rfl | rfl | rfl | rfl | rfl <;> rcases hz with ⟨a, rfl⟩ | ⟨a, b, rfl⟩ | ⟨a, b, rfl⟩ | ⟨a, rfl⟩ <;> first | (revert a b; decide) | (revert a; decide)
theorem d5_0 : decode jdk_33_method_45_code 0 = .ok (.iload_n 0, 1) := by decide +kernel
theorem d5_1 : decode jdk_33_method_45_code 1 = .ok (.ldc 127, 2) := by decide +kernel
theorem d5_3 : decode jdk_33_method_45_code 3 = .ok (.iload_n 0, 1) := by decide +kernel
theorem d5_4 : decode jdk_33_method_45_code 4 = .ok (.invokestatic 51, 3) := by decide +kernel
theorem d5_7 : decode jdk_33_method_45_code 7 = .ok (.iushr, 1) := by decide +kernel
theorem d5_8 : decode jdk_33_method_45_code 8 = .ok (.iand, 1) := by decide +kernel
theorem d5_9 : decode jdk_33_method_45_code 9 = .ok (.ireturn, 1) := by decide +kernel
theorem pn_5 : plainFor (⟨"java/lang/Integer", "highestOneBit", "(I)I"⟩ : MethodName) = true := plainFor_of_name (by first | (simp [plainName, overriddenIn]; done) | decide +kernel)
theorem ef_5 (m : MethodId) (p0 : Int32) : entryFrame m #[(.int p0)] 1 = mkF m 0 #[.val (.int p0)] [] := by first | (simp [entryFrame, mkF, argsToLocals, Value.category]; done) | rfl
theorem pd_0 : parseMethodDescriptor "(I)I" = some ⟨[.int], some .int⟩ := by decide +kernel
def Qq5 (Z : State) (p0 : Int32)  (h0 : Heap) : Int32 → Heap → Prop := fun z h' => h0 = h' ∧ Hob p0 z
abbrev Gg5 (p : Program) (l : Launch) (e : Env) (s : State) (m : MethodId) (below : List Frame) (meth : Method) (c : Code) (n0 : Nat) (h0 : Heap) (Z : State) (p0 : Int32)  (cc ss : Nat) (hh : Heap) (gg : JFrame) : Prop := G p l e ({ frames := 1, cells := 0, slots := 0, locals := 15 } : Room) s m #[(.int p0)] below meth c n0 h0 [] (RI (Qq5 Z p0  h0)) cc ss hh gg
set_option maxRecDepth 65536 in
set_option maxHeartbeats 40000000 in
theorem rm5 (l : Launch) (Z : State) (a0 : Array Value) (hw : ∀ d ∈ tables_1, d.before a0 Z = true) (p0 : Int32)  (h0 : Heap) (n0 : Nat) (hn : n0 ≤ h0.size) (hx : 0 < p0.toInt ∧ p0.toInt < 16) :
    Mt l Z (⟨"java/lang/Integer", "highestOneBit", "(I)I"⟩ : MethodName) jdk_33_method_45_code 1 (some .int) [] ({ frames := 1, cells := 0, slots := 0, locals := 15 } : Room) n0 #[(.int p0)] h0 [] (RI (Qq5 Z p0  h0)) := by
  refine Mt.intro pn_5 hn (fun x hx => nomatch hx) ?_
  have hz : h0.size ≤ h0.size := Nat.le_refl _
  intro p e s m below meth c B
  refine G.entry (ef_5 m p0) ?_
  show Gg5 p l e s m below meth c n0 h0 Z p0  0 0 h0 (mkF m 0 #[.val (.int p0)] [])
  refine G.iloadN B d5_0 (v := p0) rfl (pc' := 1) rfl ?_
  refine G.ldcI B (hw _ (List.mem_of_getElem? (i := 23) rfl)) d5_1 (pc' := 3) rfl ?_
  refine G.iloadN B d5_3 (v := p0) rfl (pc' := 4) rfl ?_
  refine G.callS (y := (⟨"java/lang/Integer", "numberOfLeadingZeros", "(I)I"⟩ : MethodName)) B (hw _ (List.mem_of_getElem? (i := 24) rfl)) (hw _ (List.mem_of_getElem? (i := 25) rfl)) (rm := ({ frames := 0, cells := 0, slots := 0, locals := 0 } : Room)) (ws' := []) (rm6 l Z a0 hw p0 _ n0 hn hx) (fun x hx => nomatch hx) (hw _ (List.mem_of_getElem? (i := 26) rfl)) (hw _ (List.mem_of_getElem? (i := 21) rfl)) (by decide) rfl (argsL := [(.int p0)]) (rest := [(.int (-2147483648 : Int32)), (.int p0)]) rfl (lenOf pd_0 rfl) (by decide) (W := 2) (Nat.le_of_eq rfl) (by decide) (by decide) (by decide) d5_4 (pc' := 7) rfl ?_
  rintro _ _ K1 ⟨z, rfl, rfl, hz_⟩
  show Gg5 p l e s m below meth c n0 h0 Z p0  0 0 h0 (mkF m 7 #[.val (.int p0)] [(.int z), (.int (-2147483648 : Int32)), (.int p0)])
  refine G.iushr B d5_7 (pc' := 8) rfl ?_
  refine G.iand B d5_8 (pc' := 9) rfl ?_
  exact G.retI B d5_9 (by decide) (by decide) ⟨rfl, own_hob p0 z hx hz_⟩
theorem own_c {k w1 w2 : Int64} (hk : 1 ≤ k.toInt ∧ k.toInt ≤ 8) (h1 : (((2 : Int64) * k).toInt ≤ (1073741824 : Int64).toInt ∧ w1 = (2 : Int64) * k) ∨ ((1073741824 : Int64).toInt < ((2 : Int64) * k).toInt ∧ w1 = (1073741824 : Int64)))
    (h2 : ((w1 - (1 : Int64)).toInt < (1 : Int64).toInt ∧ w2 = (1 : Int64)) ∨ ((1 : Int64).toInt ≤ (w1 - (1 : Int64)).toInt ∧ w2 = w1 - (1 : Int64))) : w2.toInt32.toInt = 2 * k.toInt - 1 := by
  have e1 := c_lmul (2 : Int64) k
  have e2 : (2 : Int64).toInt = 2 := by decide
  have e3 : (1073741824 : Int64).toInt = 1073741824 := by decide
  have e4 : (1 : Int64).toInt = 1 := by decide
  rw [e2] at e1
  have r1 := rng64 ((2 : Int64) * k)
  have q1 : ((2 : Int64) * k).toInt = 2 * k.toInt := by omega
  rw [q1, e3] at h1
  have w1e : w1.toInt = 2 * k.toInt := by
    rcases h1 with ⟨_, rfl⟩ | ⟨h, _⟩
    · exact q1
    · omega
  have e5 := c_lsub w1 (1 : Int64)
  have r2 := rng64 (w1 - (1 : Int64))
  rw [e4] at e5 h2
  have w2e : w2.toInt = 2 * k.toInt - 1 := by
    rcases h2 with ⟨h, rfl⟩ | ⟨h, rfl⟩ <;> omega
  have e6 := c_l2i w2
  have r3 := rng32 w2.toInt32
  omega
theorem own_len {k : Int64} {x z : Int32} (hk : 1 ≤ k.toInt ∧ k.toInt ≤ 8) (hx : x.toInt = 2 * k.toInt - 1) (hz : Hob x z) : Len k (z <<< ((1 : Int32) &&& 31)) := by
  unfold Hob at hz
  unfold Len
  rcases hz with ⟨a, rfl⟩ | ⟨a, b, rfl⟩ | ⟨a, b, rfl⟩ | ⟨a, rfl⟩
  · exact Or.inl ⟨by omega, by decide⟩
  · exact Or.inr (Or.inl ⟨by omega, by decide⟩)
  · exact Or.inr (Or.inr (Or.inl ⟨by omega, by omega, by decide⟩))
  · exact Or.inr (Or.inr (Or.inr ⟨by omega, by omega, by decide⟩))
theorem d1_0 : decode prog_11_method_1_code 0 = .ok (.aload_n 0, 1) := by decide +kernel
theorem d1_1 : decode prog_11_method_1_code 1 = .ok (.invokespecial 1, 3) := by decide +kernel
theorem d1_4 : decode prog_11_method_1_code 4 = .ok (.ldc2_w 7, 3) := by decide +kernel
theorem d1_7 : decode prog_11_method_1_code 7 = .ok (.lload_n 1, 1) := by decide +kernel
theorem d1_8 : decode prog_11_method_1_code 8 = .ok (.lmul, 1) := by decide +kernel
theorem d1_9 : decode prog_11_method_1_code 9 = .ok (.ldc2_w 11, 3) := by decide +kernel
theorem d1_12 : decode prog_11_method_1_code 12 = .ok (.invokestatic 13, 3) := by decide +kernel
theorem d1_15 : decode prog_11_method_1_code 15 = .ok (.lstore_n 3, 1) := by decide +kernel
theorem d1_16 : decode prog_11_method_1_code 16 = .ok (.aload_n 0, 1) := by decide +kernel
theorem d1_17 : decode prog_11_method_1_code 17 = .ok (.lload_n 3, 1) := by decide +kernel
theorem d1_18 : decode prog_11_method_1_code 18 = .ok (.lconst 1, 1) := by decide +kernel
theorem d1_19 : decode prog_11_method_1_code 19 = .ok (.lsub, 1) := by decide +kernel
theorem d1_20 : decode prog_11_method_1_code 20 = .ok (.lconst 1, 1) := by decide +kernel
theorem d1_21 : decode prog_11_method_1_code 21 = .ok (.invokestatic 19, 3) := by decide +kernel
theorem d1_24 : decode prog_11_method_1_code 24 = .ok (.l2i, 1) := by decide +kernel
theorem d1_25 : decode prog_11_method_1_code 25 = .ok (.invokestatic 22, 3) := by decide +kernel
theorem d1_28 : decode prog_11_method_1_code 28 = .ok (.iconst 1, 1) := by decide +kernel
theorem d1_29 : decode prog_11_method_1_code 29 = .ok (.ishl, 1) := by decide +kernel
theorem d1_30 : decode prog_11_method_1_code 30 = .ok (.putfield 28, 3) := by decide +kernel
theorem d1_33 : decode prog_11_method_1_code 33 = .ok (.return_, 1) := by decide +kernel
theorem pn_1 : plainFor (⟨"com/example/lacuna/lacuna/Ghosts", "<init>", "(J)V"⟩ : MethodName) = true := plainFor_of_name (by first | (simp [plainName, overriddenIn]; done) | decide +kernel)
theorem ef_1 (m : MethodId) (r0 : Addr) (q1 : Int64) : entryFrame m #[(.ref r0), (.long q1)] 5 = mkF m 0 #[.val (.ref r0), .val (.long q1), .second, .unset, .unset] [] := by first | (simp [entryFrame, mkF, argsToLocals, Value.category]; done) | rfl
theorem pd_1 : parseMethodDescriptor "()V" = some ⟨[], none⟩ := by decide +kernel
theorem pd_2 : parseMethodDescriptor "(JJ)J" = some ⟨[.long, .long], some .long⟩ := by decide +kernel
def Qq1 (Z : State) (r0 : Addr) (q1 : Int64) (u0 : Int32) (u1 : Value) (u2 : Int32) (h0 : Heap) : Heap → Prop := fun h' => ∃ len, O_G Z h' r0 len u1 u2 ∧ Len q1 len
abbrev Gg1 (p : Program) (l : Launch) (e : Env) (s : State) (m : MethodId) (below : List Frame) (meth : Method) (c : Code) (n0 : Nat) (h0 : Heap) (Z : State) (r0 : Addr) (q1 : Int64) (u0 : Int32) (u1 : Value) (u2 : Int32) (cc ss : Nat) (hh : Heap) (gg : JFrame) : Prop := G p l e ({ frames := 2, cells := 0, slots := 0, locals := 28 } : Room) s m #[(.ref r0), (.long q1)] below meth c n0 h0 [r0] (RV (Qq1 Z r0 q1 u0 u1 u2 h0)) cc ss hh gg
set_option maxRecDepth 65536 in
set_option maxHeartbeats 40000000 in
theorem rm1 (l : Launch) (Z : State) (a0 : Array Value) (hw : ∀ d ∈ tables_1, d.before a0 Z = true) (r0 : Addr) (q1 : Int64) (u0 : Int32) (u1 : Value) (u2 : Int32) (h0 : Heap) (n0 : Nat) (hn : n0 ≤ h0.size) (O : O_G Z h0 r0 u0 u1 u2) (hr : n0 ≤ r0) (hk : 1 ≤ q1.toInt ∧ q1.toInt ≤ 8) :
    Mt l Z (⟨"com/example/lacuna/lacuna/Ghosts", "<init>", "(J)V"⟩ : MethodName) prog_11_method_1_code 5 none [] ({ frames := 2, cells := 0, slots := 0, locals := 28 } : Room) n0 #[(.ref r0), (.long q1)] h0 [r0] (RV (Qq1 Z r0 q1 u0 u1 u2 h0)) := by
  refine Mt.intro pn_1 hn (allS hr all0) ?_
  have hz : h0.size ≤ h0.size := Nat.le_refl _
  intro p e s m below meth c B
  refine G.entry (ef_1 m r0 q1) ?_
  show Gg1 p l e s m below meth c n0 h0 Z r0 q1 u0 u1 u2 0 0 h0 (mkF m 0 #[.val (.ref r0), .val (.long q1), .second, .unset, .unset] [])
  refine G.aloadN B d1_0 (v := (.ref r0)) rfl rfl (pc' := 1) rfl ?_
  refine G.initO B (hw _ (List.mem_of_getElem? (i := 7) rfl)) (hw _ (List.mem_of_getElem? (i := 8) rfl)) (hw _ (List.mem_of_getElem? (i := 9) rfl)) rfl d1_1 (pc' := 4) rfl (by decide) (W := 0) (Nat.le_of_eq rfl) (by decide) ?_
  refine G.ldc2 B (hw _ (List.mem_of_getElem? (i := 10) rfl)) d1_4 (pc' := 7) rfl ?_
  refine G.lloadN B d1_7 (v := q1) rfl (pc' := 8) rfl ?_
  refine G.lmul B d1_8 (pc' := 9) rfl ?_
  refine G.ldc2 B (hw _ (List.mem_of_getElem? (i := 11) rfl)) d1_9 (pc' := 12) rfl ?_
  refine G.callS (y := (⟨"java/lang/Math", "min", "(JJ)J"⟩ : MethodName)) B (hw _ (List.mem_of_getElem? (i := 12) rfl)) (hw _ (List.mem_of_getElem? (i := 13) rfl)) (rm := ({ frames := 0, cells := 0, slots := 0, locals := 0 } : Room)) (ws' := []) (rm3 l Z a0 hw ((2 : Int64) * q1) (1073741824 : Int64) _ n0 hn) (fun x hx => nomatch hx) (hw _ (List.mem_of_getElem? (i := 15) rfl)) (hw _ (List.mem_of_getElem? (i := 14) rfl)) (by decide) rfl (argsL := [(.long ((2 : Int64) * q1)), (.long (1073741824 : Int64))]) (rest := []) rfl (lenOf pd_2 rfl) (by decide) (W := 0) (Nat.le_of_eq rfl) (by decide) (by decide) (by decide) d1_12 (pc' := 15) rfl ?_
  rintro _ _ K1 ⟨w1, rfl, rfl, hw1⟩
  show Gg1 p l e s m below meth c n0 h0 Z r0 q1 u0 u1 u2 0 0 h0 (mkF m 15 #[.val (.ref r0), .val (.long q1), .second, .unset, .unset] [(.long w1)])
  refine G.lstoreN B d1_15 (ls' := #[.val (.ref r0), .val (.long q1), .second, .val (.long w1), .second]) rfl (pc' := 16) rfl ?_
  refine G.aloadN B d1_16 (v := (.ref r0)) rfl rfl (pc' := 17) rfl ?_
  refine G.lloadN B d1_17 (v := w1) rfl (pc' := 18) rfl ?_
  refine G.lconst B d1_18 (z := (1 : Int64)) rfl (pc' := 19) rfl ?_
  refine G.lsub B d1_19 (pc' := 20) rfl ?_
  refine G.lconst B d1_20 (z := (1 : Int64)) rfl (pc' := 21) rfl ?_
  refine G.callS (y := (⟨"java/lang/Math", "max", "(JJ)J"⟩ : MethodName)) B (hw _ (List.mem_of_getElem? (i := 16) rfl)) (hw _ (List.mem_of_getElem? (i := 17) rfl)) (rm := ({ frames := 0, cells := 0, slots := 0, locals := 0 } : Room)) (ws' := []) (rm4 l Z a0 hw (w1 - (1 : Int64)) (1 : Int64) _ n0 hn) (fun x hx => nomatch hx) (hw _ (List.mem_of_getElem? (i := 18) rfl)) (hw _ (List.mem_of_getElem? (i := 14) rfl)) (by decide) rfl (argsL := [(.long (w1 - (1 : Int64))), (.long (1 : Int64))]) (rest := [(.ref r0)]) rfl (lenOf pd_2 rfl) (by decide) (W := 1) (Nat.le_of_eq rfl) (by decide) (by decide) (by decide) d1_21 (pc' := 24) rfl ?_
  rintro _ _ K2 ⟨w2, rfl, rfl, hw2⟩
  show Gg1 p l e s m below meth c n0 h0 Z r0 q1 u0 u1 u2 0 0 h0 (mkF m 24 #[.val (.ref r0), .val (.long q1), .second, .val (.long w1), .second] [(.long w2), (.ref r0)])
  refine G.l2i B d1_24 (pc' := 25) rfl ?_
  have hx := own_c hk hw1 hw2
  refine G.callS (y := (⟨"java/lang/Integer", "highestOneBit", "(I)I"⟩ : MethodName)) B (hw _ (List.mem_of_getElem? (i := 19) rfl)) (hw _ (List.mem_of_getElem? (i := 20) rfl)) (rm := ({ frames := 1, cells := 0, slots := 0, locals := 15 } : Room)) (ws' := []) (rm5 l Z a0 hw (w2.toInt32) _ n0 hn (by omega)) (fun x hx => nomatch hx) (hw _ (List.mem_of_getElem? (i := 22) rfl)) (hw _ (List.mem_of_getElem? (i := 21) rfl)) (by decide) rfl (argsL := [(.int (w2.toInt32))]) (rest := [(.ref r0)]) rfl (lenOf pd_0 rfl) (by decide) (W := 1) (Nat.le_of_eq rfl) (by decide) (by decide) (by decide) d1_25 (pc' := 28) rfl ?_
  rintro _ _ K3 ⟨z, rfl, rfl, hz_⟩
  show Gg1 p l e s m below meth c n0 h0 Z r0 q1 u0 u1 u2 0 0 h0 (mkF m 28 #[.val (.ref r0), .val (.long q1), .second, .val (.long w1), .second] [(.int z), (.ref r0)])
  refine G.iconst B d1_28 (z := (1 : Int32)) rfl (pc' := 29) rfl ?_
  refine G.ishl B d1_29 (pc' := 30) rfl ?_
  refine G.putF (C := "com/example/lacuna/lacuna/Ghosts") B (hw _ (List.mem_of_getElem? (i := 28) rfl)) Via.refl O.2.1 O.1 (Or.inr ⟨(hw _ (List.mem_of_getElem? (i := 29) rfl)), rfl, rfl⟩) (hw _ (List.mem_of_getElem? (i := 2) rfl)) (ty := .int) (v' := (.int (z <<< ((1 : Int32) &&& 31)))) (by decide) rfl rfl (Or.inl (List.mem_of_getElem? (i := 0) rfl)) d1_30 (pc' := 33) rfl (fun h4 W4 => ?_)
  replace O := O.set_0 hw W4
  replace hn := Nat.le_trans hn (Keep.of_wr W4).1
  replace hz := Nat.le_trans hz (Keep.of_wr W4).1
  exact G.retV B d1_33 (by decide) (by decide) ⟨_, O, own_len hk hx hz_⟩
def ix (len : Int32) (x : Int64) : Nat := (x.toInt32 &&& (len - (1 : Int32))).toInt.toNat
def vv (x : Int64) (a : Int32) : Int64 := (x &&& (-4294967296 : Int64)) ||| (a.toInt64 &&& (4294967295 : Int64))
def us (x : Int64) : Int64 := ((x.toUInt64 >>> ((32 : Int32) &&& 0x3f).toInt64.toUInt64).toInt64)
def Fg (f : Nat → Int64) (i : Nat) (x : Int64) (ad z : Int32) (f' : Nat → Int64) : Prop := ((f i = 0 ∨ us (f i ^^^ x) ≠ 0) ∧ z = -1 ∧ f' = f) ∨ (f i ≠ 0 ∧ us (f i ^^^ x) = 0 ∧ z = ad - (f i).toInt32 ∧ f' = up f i 0)
theorem own_ix {len : Int32} {n : Nat} (x : Int64) (hl : len.toInt = (n : Int)) (hn : 1 ≤ n ∧ n ≤ 16) : (x.toInt32 &&& (len - (1 : Int32))).toInt = (ix len x : Int) ∧ ix len x < n := by
  have e1 := c_isub len (1 : Int32)
  have e2 : (1 : Int32).toInt = 1 := by decide
  have r1 := rng32 (len - (1 : Int32))
  have h := c_and x.toInt32 (len - (1 : Int32)) (by omega)
  unfold ix
  omega
theorem d8_0 : decode prog_11_method_2_code 0 = .ok (.aload_n 0, 1) := by decide +kernel
theorem d8_1 : decode prog_11_method_2_code 1 = .ok (.getfield 32, 3) := by decide +kernel
theorem d8_4 : decode prog_11_method_2_code 4 = .ok (.ifnonnull 13, 3) := by decide +kernel
theorem d8_7 : decode prog_11_method_2_code 7 = .ok (.aload_n 0, 1) := by decide +kernel
theorem d8_8 : decode prog_11_method_2_code 8 = .ok (.aload_n 0, 1) := by decide +kernel
theorem d8_9 : decode prog_11_method_2_code 9 = .ok (.getfield 28, 3) := by decide +kernel
theorem d8_12 : decode prog_11_method_2_code 12 = .ok (.newarray .long, 2) := by decide +kernel
theorem d8_14 : decode prog_11_method_2_code 14 = .ok (.putfield 32, 3) := by decide +kernel
theorem d8_17 : decode prog_11_method_2_code 17 = .ok (.aload_n 0, 1) := by decide +kernel
theorem d8_18 : decode prog_11_method_2_code 18 = .ok (.dup, 1) := by decide +kernel
theorem d8_19 : decode prog_11_method_2_code 19 = .ok (.getfield 36, 3) := by decide +kernel
theorem d8_22 : decode prog_11_method_2_code 22 = .ok (.iconst 1, 1) := by decide +kernel
theorem d8_23 : decode prog_11_method_2_code 23 = .ok (.iadd, 1) := by decide +kernel
theorem d8_24 : decode prog_11_method_2_code 24 = .ok (.putfield 36, 3) := by decide +kernel
theorem d8_27 : decode prog_11_method_2_code 27 = .ok (.aload_n 0, 1) := by decide +kernel
theorem d8_28 : decode prog_11_method_2_code 28 = .ok (.getfield 32, 3) := by decide +kernel
theorem d8_31 : decode prog_11_method_2_code 31 = .ok (.lload_n 1, 1) := by decide +kernel
theorem d8_32 : decode prog_11_method_2_code 32 = .ok (.l2i, 1) := by decide +kernel
theorem d8_33 : decode prog_11_method_2_code 33 = .ok (.aload_n 0, 1) := by decide +kernel
theorem d8_34 : decode prog_11_method_2_code 34 = .ok (.getfield 28, 3) := by decide +kernel
theorem d8_37 : decode prog_11_method_2_code 37 = .ok (.iconst 1, 1) := by decide +kernel
theorem d8_38 : decode prog_11_method_2_code 38 = .ok (.isub, 1) := by decide +kernel
theorem d8_39 : decode prog_11_method_2_code 39 = .ok (.iand, 1) := by decide +kernel
theorem d8_40 : decode prog_11_method_2_code 40 = .ok (.lload_n 1, 1) := by decide +kernel
theorem d8_41 : decode prog_11_method_2_code 41 = .ok (.ldc2_w 39, 3) := by decide +kernel
theorem d8_44 : decode prog_11_method_2_code 44 = .ok (.land, 1) := by decide +kernel
theorem d8_45 : decode prog_11_method_2_code 45 = .ok (.aload_n 0, 1) := by decide +kernel
theorem d8_46 : decode prog_11_method_2_code 46 = .ok (.getfield 36, 3) := by decide +kernel
theorem d8_49 : decode prog_11_method_2_code 49 = .ok (.i2l, 1) := by decide +kernel
theorem d8_50 : decode prog_11_method_2_code 50 = .ok (.ldc2_w 41, 3) := by decide +kernel
theorem d8_53 : decode prog_11_method_2_code 53 = .ok (.land, 1) := by decide +kernel
theorem d8_54 : decode prog_11_method_2_code 54 = .ok (.lor, 1) := by decide +kernel
theorem d8_55 : decode prog_11_method_2_code 55 = .ok (.lastore, 1) := by decide +kernel
theorem d8_56 : decode prog_11_method_2_code 56 = .ok (.return_, 1) := by decide +kernel
theorem pn_8 : plainFor (⟨"com/example/lacuna/lacuna/Ghosts", "add", "(J)V"⟩ : MethodName) = true := plainFor_of_name (by first | (simp [plainName, overriddenIn]; done) | decide +kernel)
theorem ef_8 (m : MethodId) (r0 : Addr) (q1 : Int64) : entryFrame m #[(.ref r0), (.long q1)] 3 = mkF m 0 #[.val (.ref r0), .val (.long q1), .second] [] := by first | (simp [entryFrame, mkF, argsToLocals, Value.category]; done) | rfl
def Qq8n (Z : State) (r0 : Addr) (q1 : Int64) (len ad : Int32) (n : Nat) (h0 : Heap) : Heap → Prop := fun h' => ∃ sl, h0.size ≤ sl ∧ O_G Z h' r0 len (.ref sl) (ad + 1) ∧ ArJ Z h' sl n (up (fun _ => 0) (ix len q1) (vv q1 (ad + 1)))
abbrev Gg8n (p : Program) (l : Launch) (e : Env) (s : State) (m : MethodId) (below : List Frame) (meth : Method) (c : Code) (n0 : Nat) (h0 : Heap) (Z : State) (r0 : Addr) (q1 : Int64) (len ad : Int32) (n : Nat) (cc ss : Nat) (hh : Heap) (gg : JFrame) : Prop := G p l e ({ frames := 0, cells := 1, slots := 16, locals := 0 } : Room) s m #[(.ref r0), (.long q1)] below meth c n0 h0 [r0] (RV (Qq8n Z r0 q1 len ad n h0)) cc ss hh gg
set_option maxRecDepth 65536 in
set_option maxHeartbeats 40000000 in
theorem rm8n (l : Launch) (Z : State) (a0 : Array Value) (hw : ∀ d ∈ tables_1, d.before a0 Z = true) (r0 : Addr) (q1 : Int64) (len ad : Int32) (n : Nat) (h0 : Heap) (n0 : Nat) (hn : n0 ≤ h0.size) (O : O_G Z h0 r0 len .null ad) (hl : len.toInt = (n : Int)) (hn1 : 1 ≤ n ∧ n ≤ 16) (hr : n0 ≤ r0) :
    Mt l Z (⟨"com/example/lacuna/lacuna/Ghosts", "add", "(J)V"⟩ : MethodName) prog_11_method_2_code 3 none [] ({ frames := 0, cells := 1, slots := 16, locals := 0 } : Room) n0 #[(.ref r0), (.long q1)] h0 [r0] (RV (Qq8n Z r0 q1 len ad n h0)) := by
  refine Mt.intro pn_8 hn (allS hr all0) ?_
  have hz : h0.size ≤ h0.size := Nat.le_refl _
  intro p e s m below meth c B
  refine G.entry (ef_8 m r0 q1) ?_
  show Gg8n p l e s m below meth c n0 h0 Z r0 q1 len ad n 0 0 h0 (mkF m 0 #[.val (.ref r0), .val (.long q1), .second] [])
  refine G.aloadN B d8_0 (v := (.ref r0)) rfl rfl (pc' := 1) rfl ?_
  refine G.getF B (host := "") (Or.inl (hw _ (List.mem_of_getElem? (i := 35) rfl))) Via.refl O.2.2.1 d8_1 (pc' := 4) rfl ?_
  refine G.ifnonnull_f (b := 0) B d8_4 (pc' := 7) rfl ?_
  refine G.aloadN B d8_7 (v := (.ref r0)) rfl rfl (pc' := 8) rfl ?_
  refine G.aloadN B d8_8 (v := (.ref r0)) rfl rfl (pc' := 9) rfl ?_
  refine G.getF B (host := "") (Or.inl (hw _ (List.mem_of_getElem? (i := 28) rfl))) Via.refl O.2.1 d8_9 (pc' := 12) rfl ?_
  refine G.newJ B (hw _ (List.mem_of_getElem? (i := 42) rfl)) (n := n) hl (cap := 16) hn1.2 (by decide) d8_12 (pc' := 14) rfl (by decide) (by decide) (fun h1 sl hs_sl hf_sl K1 A_sl => ?_)
  have ne_r0_sl : r0 ≠ sl := Nat.ne_of_lt (hs_sl ▸ O.lt)
  replace hn := Nat.le_trans hn K1.1
  replace hz := Nat.le_trans hz K1.1
  replace O := O.keep K1 nin0
  show Gg8n p l e s m below meth c n0 h0 Z r0 q1 len ad n 1 16 h1 (mkF m 14 #[.val (.ref r0), .val (.long q1), .second] [(.ref sl), (.ref r0)])
  refine G.putF (C := "com/example/lacuna/lacuna/Ghosts") B (hw _ (List.mem_of_getElem? (i := 35) rfl)) Via.refl O.2.2.1 O.1 (Or.inl (hw _ (List.mem_of_getElem? (i := 36) rfl))) (hw _ (List.mem_of_getElem? (i := 2) rfl)) (ty := (.array .long)) (v' := (.ref sl)) (by decide) rfl rfl (Or.inl (List.mem_of_getElem? (i := 0) rfl)) d8_14 (pc' := 17) rfl (fun h2 W2 => ?_)
  replace O := O.set_1 hw W2
  replace hn := Nat.le_trans hn (Keep.of_wr W2).1
  replace hz := Nat.le_trans hz (Keep.of_wr W2).1
  replace A_sl := A_sl.keep (Keep.of_wr W2) (ninS (Ne.symm ne_r0_sl) nin0)
  refine G.aloadN B d8_17 (v := (.ref r0)) rfl rfl (pc' := 18) rfl ?_
  refine G.dup B d8_18 rfl (pc' := 19) rfl ?_
  refine G.getF B (host := "") (Or.inl (hw _ (List.mem_of_getElem? (i := 43) rfl))) Via.refl O.2.2.2 d8_19 (pc' := 22) rfl ?_
  refine G.iconst B d8_22 (z := (1 : Int32)) rfl (pc' := 23) rfl ?_
  refine G.iadd B d8_23 (pc' := 24) rfl ?_
  refine G.putF (C := "com/example/lacuna/lacuna/Ghosts") B (hw _ (List.mem_of_getElem? (i := 43) rfl)) Via.refl O.2.2.2 O.1 (Or.inl (hw _ (List.mem_of_getElem? (i := 44) rfl))) (hw _ (List.mem_of_getElem? (i := 2) rfl)) (ty := .int) (v' := (.int (ad + (1 : Int32)))) (by decide) rfl rfl (Or.inl (List.mem_of_getElem? (i := 0) rfl)) d8_24 (pc' := 27) rfl (fun h3 W3 => ?_)
  replace O := O.set_2 hw W3
  replace hn := Nat.le_trans hn (Keep.of_wr W3).1
  replace hz := Nat.le_trans hz (Keep.of_wr W3).1
  replace A_sl := A_sl.keep (Keep.of_wr W3) (ninS (Ne.symm ne_r0_sl) nin0)
  refine G.aloadN B d8_27 (v := (.ref r0)) rfl rfl (pc' := 28) rfl ?_
  refine G.getF B (host := "") (Or.inl (hw _ (List.mem_of_getElem? (i := 35) rfl))) Via.refl O.2.2.1 d8_28 (pc' := 31) rfl ?_
  refine G.lloadN B d8_31 (v := q1) rfl (pc' := 32) rfl ?_
  refine G.l2i B d8_32 (pc' := 33) rfl ?_
  refine G.aloadN B d8_33 (v := (.ref r0)) rfl rfl (pc' := 34) rfl ?_
  refine G.getF B (host := "") (Or.inl (hw _ (List.mem_of_getElem? (i := 28) rfl))) Via.refl O.2.1 d8_34 (pc' := 37) rfl ?_
  refine G.iconst B d8_37 (z := (1 : Int32)) rfl (pc' := 38) rfl ?_
  refine G.isub B d8_38 (pc' := 39) rfl ?_
  refine G.iand B d8_39 (pc' := 40) rfl ?_
  refine G.lloadN B d8_40 (v := q1) rfl (pc' := 41) rfl ?_
  refine G.ldc2 B (hw _ (List.mem_of_getElem? (i := 45) rfl)) d8_41 (pc' := 44) rfl ?_
  refine G.land B d8_44 (pc' := 45) rfl ?_
  refine G.aloadN B d8_45 (v := (.ref r0)) rfl rfl (pc' := 46) rfl ?_
  refine G.getF B (host := "") (Or.inl (hw _ (List.mem_of_getElem? (i := 43) rfl))) Via.refl O.2.2.2 d8_46 (pc' := 49) rfl ?_
  refine G.i2l B d8_49 (pc' := 50) rfl ?_
  refine G.ldc2 B (hw _ (List.mem_of_getElem? (i := 46) rfl)) d8_50 (pc' := 53) rfl ?_
  refine G.land B d8_53 (pc' := 54) rfl ?_
  refine G.lor B d8_54 (pc' := 55) rfl ?_
  refine G.stJ B A_sl (i := (ix len q1)) (own_ix q1 hl hn1).1 (own_ix q1 hl hn1).2 (Or.inr hf_sl) d8_55 (pc' := 56) rfl (fun h4 K4 A4 => ?_)
  replace A_sl := A4
  replace hn := Nat.le_trans hn K4.1
  replace hz := Nat.le_trans hz K4.1
  replace O := O.keep K4 (ninS ne_r0_sl nin0)
  exact G.retV B d8_56 (by decide) (by decide) ⟨sl, hf_sl, O, A_sl⟩
def Qq8s (Z : State) (r0 : Addr) (q1 : Int64) (len ad : Int32) (n : Nat) (sl : Addr) (f : Nat → Int64) (h0 : Heap) : Heap → Prop := fun h' => O_G Z h' r0 len (.ref sl) (ad + 1) ∧ ArJ Z h' sl n (up f (ix len q1) (vv q1 (ad + 1)))
abbrev Gg8s (p : Program) (l : Launch) (e : Env) (s : State) (m : MethodId) (below : List Frame) (meth : Method) (c : Code) (n0 : Nat) (h0 : Heap) (Z : State) (r0 : Addr) (q1 : Int64) (len ad : Int32) (n : Nat) (sl : Addr) (f : Nat → Int64) (cc ss : Nat) (hh : Heap) (gg : JFrame) : Prop := G p l e ({ frames := 0, cells := 0, slots := 0, locals := 0 } : Room) s m #[(.ref r0), (.long q1)] below meth c n0 h0 [r0, sl] (RV (Qq8s Z r0 q1 len ad n sl f h0)) cc ss hh gg
set_option maxRecDepth 65536 in
set_option maxHeartbeats 40000000 in
theorem rm8s (l : Launch) (Z : State) (a0 : Array Value) (hw : ∀ d ∈ tables_1, d.before a0 Z = true) (r0 : Addr) (q1 : Int64) (len ad : Int32) (n : Nat) (sl : Addr) (f : Nat → Int64) (h0 : Heap) (n0 : Nat) (hn : n0 ≤ h0.size) (O : O_G Z h0 r0 len (.ref sl) ad) (A : ArJ Z h0 sl n f) (hne : r0 ≠ sl) (hl : len.toInt = (n : Int)) (hn1 : 1 ≤ n ∧ n ≤ 16) (hr : n0 ≤ r0) (hrs : n0 ≤ sl) :
    Mt l Z (⟨"com/example/lacuna/lacuna/Ghosts", "add", "(J)V"⟩ : MethodName) prog_11_method_2_code 3 none [] ({ frames := 0, cells := 0, slots := 0, locals := 0 } : Room) n0 #[(.ref r0), (.long q1)] h0 [r0, sl] (RV (Qq8s Z r0 q1 len ad n sl f h0)) := by
  refine Mt.intro pn_8 hn (allS hr (allS hrs all0)) ?_
  have hz : h0.size ≤ h0.size := Nat.le_refl _
  intro p e s m below meth c B
  refine G.entry (ef_8 m r0 q1) ?_
  show Gg8s p l e s m below meth c n0 h0 Z r0 q1 len ad n sl f 0 0 h0 (mkF m 0 #[.val (.ref r0), .val (.long q1), .second] [])
  refine G.aloadN B d8_0 (v := (.ref r0)) rfl rfl (pc' := 1) rfl ?_
  refine G.getF B (host := "") (Or.inl (hw _ (List.mem_of_getElem? (i := 35) rfl))) Via.refl O.2.2.1 d8_1 (pc' := 4) rfl ?_
  refine G.ifnonnull_t (b := sl) B d8_4 (by decide) (pcT := 17) (by decide) ?_
  refine G.aloadN B d8_17 (v := (.ref r0)) rfl rfl (pc' := 18) rfl ?_
  refine G.dup B d8_18 rfl (pc' := 19) rfl ?_
  refine G.getF B (host := "") (Or.inl (hw _ (List.mem_of_getElem? (i := 43) rfl))) Via.refl O.2.2.2 d8_19 (pc' := 22) rfl ?_
  refine G.iconst B d8_22 (z := (1 : Int32)) rfl (pc' := 23) rfl ?_
  refine G.iadd B d8_23 (pc' := 24) rfl ?_
  refine G.putF (C := "com/example/lacuna/lacuna/Ghosts") B (hw _ (List.mem_of_getElem? (i := 43) rfl)) Via.refl O.2.2.2 O.1 (Or.inl (hw _ (List.mem_of_getElem? (i := 44) rfl))) (hw _ (List.mem_of_getElem? (i := 2) rfl)) (ty := .int) (v' := (.int (ad + (1 : Int32)))) (by decide) rfl rfl (Or.inl (List.mem_of_getElem? (i := 0) rfl)) d8_24 (pc' := 27) rfl (fun h1 W1 => ?_)
  replace O := O.set_2 hw W1
  replace hn := Nat.le_trans hn (Keep.of_wr W1).1
  replace hz := Nat.le_trans hz (Keep.of_wr W1).1
  replace A := A.keep (Keep.of_wr W1) (ninS (Ne.symm hne) nin0)
  refine G.aloadN B d8_27 (v := (.ref r0)) rfl rfl (pc' := 28) rfl ?_
  refine G.getF B (host := "") (Or.inl (hw _ (List.mem_of_getElem? (i := 35) rfl))) Via.refl O.2.2.1 d8_28 (pc' := 31) rfl ?_
  refine G.lloadN B d8_31 (v := q1) rfl (pc' := 32) rfl ?_
  refine G.l2i B d8_32 (pc' := 33) rfl ?_
  refine G.aloadN B d8_33 (v := (.ref r0)) rfl rfl (pc' := 34) rfl ?_
  refine G.getF B (host := "") (Or.inl (hw _ (List.mem_of_getElem? (i := 28) rfl))) Via.refl O.2.1 d8_34 (pc' := 37) rfl ?_
  refine G.iconst B d8_37 (z := (1 : Int32)) rfl (pc' := 38) rfl ?_
  refine G.isub B d8_38 (pc' := 39) rfl ?_
  refine G.iand B d8_39 (pc' := 40) rfl ?_
  refine G.lloadN B d8_40 (v := q1) rfl (pc' := 41) rfl ?_
  refine G.ldc2 B (hw _ (List.mem_of_getElem? (i := 45) rfl)) d8_41 (pc' := 44) rfl ?_
  refine G.land B d8_44 (pc' := 45) rfl ?_
  refine G.aloadN B d8_45 (v := (.ref r0)) rfl rfl (pc' := 46) rfl ?_
  refine G.getF B (host := "") (Or.inl (hw _ (List.mem_of_getElem? (i := 43) rfl))) Via.refl O.2.2.2 d8_46 (pc' := 49) rfl ?_
  refine G.i2l B d8_49 (pc' := 50) rfl ?_
  refine G.ldc2 B (hw _ (List.mem_of_getElem? (i := 46) rfl)) d8_50 (pc' := 53) rfl ?_
  refine G.land B d8_53 (pc' := 54) rfl ?_
  refine G.lor B d8_54 (pc' := 55) rfl ?_
  refine G.stJ B A (i := (ix len q1)) (own_ix q1 hl hn1).1 (own_ix q1 hl hn1).2 (Or.inl (List.mem_of_getElem? (i := 1) rfl)) d8_55 (pc' := 56) rfl (fun h2 K2 A2 => ?_)
  replace A := A2
  replace hn := Nat.le_trans hn K2.1
  replace hz := Nat.le_trans hz K2.1
  replace O := O.keep K2 (ninS hne nin0)
  exact G.retV B d8_56 (by decide) (by decide) ⟨O, A⟩
theorem d7_0 : decode prog_11_method_3_code 0 = .ok (.lload_n 1, 1) := by decide +kernel
theorem d7_1 : decode prog_11_method_3_code 1 = .ok (.l2i, 1) := by decide +kernel
theorem d7_2 : decode prog_11_method_3_code 2 = .ok (.aload_n 0, 1) := by decide +kernel
theorem d7_3 : decode prog_11_method_3_code 3 = .ok (.getfield 28, 3) := by decide +kernel
theorem d7_6 : decode prog_11_method_3_code 6 = .ok (.iconst 1, 1) := by decide +kernel
theorem d7_7 : decode prog_11_method_3_code 7 = .ok (.isub, 1) := by decide +kernel
theorem d7_8 : decode prog_11_method_3_code 8 = .ok (.iand, 1) := by decide +kernel
theorem d7_9 : decode prog_11_method_3_code 9 = .ok (.istore_n 3, 1) := by decide +kernel
theorem d7_10 : decode prog_11_method_3_code 10 = .ok (.aload_n 0, 1) := by decide +kernel
theorem d7_11 : decode prog_11_method_3_code 11 = .ok (.getfield 32, 3) := by decide +kernel
theorem d7_14 : decode prog_11_method_3_code 14 = .ok (.ifnonnull 7, 3) := by decide +kernel
theorem d7_17 : decode prog_11_method_3_code 17 = .ok (.lconst 0, 1) := by decide +kernel
theorem d7_18 : decode prog_11_method_3_code 18 = .ok (.goto 9, 3) := by decide +kernel
theorem d7_21 : decode prog_11_method_3_code 21 = .ok (.aload_n 0, 1) := by decide +kernel
theorem d7_22 : decode prog_11_method_3_code 22 = .ok (.getfield 32, 3) := by decide +kernel
theorem d7_25 : decode prog_11_method_3_code 25 = .ok (.iload_n 3, 1) := by decide +kernel
theorem d7_26 : decode prog_11_method_3_code 26 = .ok (.laload, 1) := by decide +kernel
theorem d7_27 : decode prog_11_method_3_code 27 = .ok (.lstore 4, 2) := by decide +kernel
theorem d7_29 : decode prog_11_method_3_code 29 = .ok (.lload 4, 2) := by decide +kernel
theorem d7_31 : decode prog_11_method_3_code 31 = .ok (.lconst 0, 1) := by decide +kernel
theorem d7_32 : decode prog_11_method_3_code 32 = .ok (.lcmp, 1) := by decide +kernel
theorem d7_33 : decode prog_11_method_3_code 33 = .ok (.ifCond .eq 15, 3) := by decide +kernel
theorem d7_36 : decode prog_11_method_3_code 36 = .ok (.lload 4, 2) := by decide +kernel
theorem d7_38 : decode prog_11_method_3_code 38 = .ok (.lload_n 1, 1) := by decide +kernel
theorem d7_39 : decode prog_11_method_3_code 39 = .ok (.lxor, 1) := by decide +kernel
theorem d7_40 : decode prog_11_method_3_code 40 = .ok (.bipush 32, 2) := by decide +kernel
theorem d7_42 : decode prog_11_method_3_code 42 = .ok (.lushr, 1) := by decide +kernel
theorem d7_43 : decode prog_11_method_3_code 43 = .ok (.lconst 0, 1) := by decide +kernel
theorem d7_44 : decode prog_11_method_3_code 44 = .ok (.lcmp, 1) := by decide +kernel
theorem d7_45 : decode prog_11_method_3_code 45 = .ok (.ifCond .eq 5, 3) := by decide +kernel
theorem d7_48 : decode prog_11_method_3_code 48 = .ok (.iconst (-1), 1) := by decide +kernel
theorem d7_49 : decode prog_11_method_3_code 49 = .ok (.ireturn, 1) := by decide +kernel
theorem d7_50 : decode prog_11_method_3_code 50 = .ok (.aload_n 0, 1) := by decide +kernel
theorem d7_51 : decode prog_11_method_3_code 51 = .ok (.getfield 32, 3) := by decide +kernel
theorem d7_54 : decode prog_11_method_3_code 54 = .ok (.iload_n 3, 1) := by decide +kernel
theorem d7_55 : decode prog_11_method_3_code 55 = .ok (.lconst 0, 1) := by decide +kernel
theorem d7_56 : decode prog_11_method_3_code 56 = .ok (.lastore, 1) := by decide +kernel
theorem d7_57 : decode prog_11_method_3_code 57 = .ok (.aload_n 0, 1) := by decide +kernel
theorem d7_58 : decode prog_11_method_3_code 58 = .ok (.getfield 36, 3) := by decide +kernel
theorem d7_61 : decode prog_11_method_3_code 61 = .ok (.lload 4, 2) := by decide +kernel
theorem d7_63 : decode prog_11_method_3_code 63 = .ok (.l2i, 1) := by decide +kernel
theorem d7_64 : decode prog_11_method_3_code 64 = .ok (.isub, 1) := by decide +kernel
theorem d7_65 : decode prog_11_method_3_code 65 = .ok (.ireturn, 1) := by decide +kernel
theorem pn_7 : plainFor (⟨"com/example/lacuna/lacuna/Ghosts", "forget", "(J)I"⟩ : MethodName) = true := plainFor_of_name (by first | (simp [plainName, overriddenIn]; done) | decide +kernel)
theorem ef_7 (m : MethodId) (r0 : Addr) (q1 : Int64) : entryFrame m #[(.ref r0), (.long q1)] 6 = mkF m 0 #[.val (.ref r0), .val (.long q1), .second, .unset, .unset, .unset] [] := by first | (simp [entryFrame, mkF, argsToLocals, Value.category]; done) | rfl
def Qq7n (Z : State) (r0 : Addr) (q1 : Int64) (len ad : Int32) (h0 : Heap) : Int32 → Heap → Prop := fun z h' => h0 = h' ∧ z = -1
abbrev Gg7n (p : Program) (l : Launch) (e : Env) (s : State) (m : MethodId) (below : List Frame) (meth : Method) (c : Code) (n0 : Nat) (h0 : Heap) (Z : State) (r0 : Addr) (q1 : Int64) (len ad : Int32) (cc ss : Nat) (hh : Heap) (gg : JFrame) : Prop := G p l e ({ frames := 0, cells := 0, slots := 0, locals := 0 } : Room) s m #[(.ref r0), (.long q1)] below meth c n0 h0 [] (RI (Qq7n Z r0 q1 len ad h0)) cc ss hh gg
set_option maxRecDepth 65536 in
set_option maxHeartbeats 40000000 in
theorem rm7n (l : Launch) (Z : State) (a0 : Array Value) (hw : ∀ d ∈ tables_1, d.before a0 Z = true) (r0 : Addr) (q1 : Int64) (len ad : Int32) (h0 : Heap) (n0 : Nat) (hn : n0 ≤ h0.size) (O : O_G Z h0 r0 len .null ad) :
    Mt l Z (⟨"com/example/lacuna/lacuna/Ghosts", "forget", "(J)I"⟩ : MethodName) prog_11_method_3_code 6 (some .int) [] ({ frames := 0, cells := 0, slots := 0, locals := 0 } : Room) n0 #[(.ref r0), (.long q1)] h0 [] (RI (Qq7n Z r0 q1 len ad h0)) := by
  refine Mt.intro pn_7 hn (fun x hx => nomatch hx) ?_
  have hz : h0.size ≤ h0.size := Nat.le_refl _
  intro p e s m below meth c B
  refine G.entry (ef_7 m r0 q1) ?_
  show Gg7n p l e s m below meth c n0 h0 Z r0 q1 len ad 0 0 h0 (mkF m 0 #[.val (.ref r0), .val (.long q1), .second, .unset, .unset, .unset] [])
  refine G.lloadN B d7_0 (v := q1) rfl (pc' := 1) rfl ?_
  refine G.l2i B d7_1 (pc' := 2) rfl ?_
  refine G.aloadN B d7_2 (v := (.ref r0)) rfl rfl (pc' := 3) rfl ?_
  refine G.getF B (host := "") (Or.inl (hw _ (List.mem_of_getElem? (i := 28) rfl))) Via.refl O.2.1 d7_3 (pc' := 6) rfl ?_
  refine G.iconst B d7_6 (z := (1 : Int32)) rfl (pc' := 7) rfl ?_
  refine G.isub B d7_7 (pc' := 8) rfl ?_
  refine G.iand B d7_8 (pc' := 9) rfl ?_
  refine G.istoreN B d7_9 (ls' := #[.val (.ref r0), .val (.long q1), .second, .val (.int ((q1.toInt32) &&& (len - (1 : Int32)))), .unset, .unset]) rfl (pc' := 10) rfl ?_
  refine G.aloadN B d7_10 (v := (.ref r0)) rfl rfl (pc' := 11) rfl ?_
  refine G.getF B (host := "") (Or.inl (hw _ (List.mem_of_getElem? (i := 35) rfl))) Via.refl O.2.2.1 d7_11 (pc' := 14) rfl ?_
  refine G.ifnonnull_f (b := 0) B d7_14 (pc' := 17) rfl ?_
  refine G.lconst B d7_17 (z := (0 : Int64)) rfl (pc' := 18) rfl ?_
  refine G.goto B d7_18 (by decide) (pc' := 27) (by decide) ?_
  refine G.lstore B d7_27 (ls' := #[.val (.ref r0), .val (.long q1), .second, .val (.int ((q1.toInt32) &&& (len - (1 : Int32)))), .val (.long (0 : Int64)), .second]) rfl (pc' := 29) rfl ?_
  refine G.lload B d7_29 (v := (0 : Int64)) rfl (pc' := 31) rfl ?_
  refine G.lconst B d7_31 (z := (0 : Int64)) rfl (pc' := 32) rfl ?_
  have hc32 : (0 : Int64) = (0 : Int64) := rfl
  refine G.lcmp_eq B d7_32 rfl d7_33 (by decide) (pcT := 48) (by decide) (pc' := 36) rfl (fun _ => ?_) (fun q => absurd hc32 q)
  refine G.iconst B d7_48 (z := (-1 : Int32)) rfl (pc' := 49) rfl ?_
  exact G.retI B d7_49 (by decide) (by decide) ⟨rfl, rfl⟩
def Qq7s (Z : State) (r0 : Addr) (q1 : Int64) (len ad : Int32) (n : Nat) (sl : Addr) (f : Nat → Int64) (h0 : Heap) : Int32 → Heap → Prop := fun z h' => ∃ f', O_G Z h' r0 len (.ref sl) ad ∧ ArJ Z h' sl n f' ∧ Fg f (ix len q1) q1 ad z f'
abbrev Gg7s (p : Program) (l : Launch) (e : Env) (s : State) (m : MethodId) (below : List Frame) (meth : Method) (c : Code) (n0 : Nat) (h0 : Heap) (Z : State) (r0 : Addr) (q1 : Int64) (len ad : Int32) (n : Nat) (sl : Addr) (f : Nat → Int64) (cc ss : Nat) (hh : Heap) (gg : JFrame) : Prop := G p l e ({ frames := 0, cells := 0, slots := 0, locals := 0 } : Room) s m #[(.ref r0), (.long q1)] below meth c n0 h0 [sl] (RI (Qq7s Z r0 q1 len ad n sl f h0)) cc ss hh gg
set_option maxRecDepth 65536 in
set_option maxHeartbeats 40000000 in
theorem rm7s (l : Launch) (Z : State) (a0 : Array Value) (hw : ∀ d ∈ tables_1, d.before a0 Z = true) (r0 : Addr) (q1 : Int64) (len ad : Int32) (n : Nat) (sl : Addr) (f : Nat → Int64) (h0 : Heap) (n0 : Nat) (hn : n0 ≤ h0.size) (O : O_G Z h0 r0 len (.ref sl) ad) (A : ArJ Z h0 sl n f) (hne : r0 ≠ sl) (hl : len.toInt = (n : Int)) (hn1 : 1 ≤ n ∧ n ≤ 16) (hrs : n0 ≤ sl) :
    Mt l Z (⟨"com/example/lacuna/lacuna/Ghosts", "forget", "(J)I"⟩ : MethodName) prog_11_method_3_code 6 (some .int) [] ({ frames := 0, cells := 0, slots := 0, locals := 0 } : Room) n0 #[(.ref r0), (.long q1)] h0 [sl] (RI (Qq7s Z r0 q1 len ad n sl f h0)) := by
  refine Mt.intro pn_7 hn (allS hrs all0) ?_
  have hz : h0.size ≤ h0.size := Nat.le_refl _
  intro p e s m below meth c B
  refine G.entry (ef_7 m r0 q1) ?_
  show Gg7s p l e s m below meth c n0 h0 Z r0 q1 len ad n sl f 0 0 h0 (mkF m 0 #[.val (.ref r0), .val (.long q1), .second, .unset, .unset, .unset] [])
  refine G.lloadN B d7_0 (v := q1) rfl (pc' := 1) rfl ?_
  refine G.l2i B d7_1 (pc' := 2) rfl ?_
  refine G.aloadN B d7_2 (v := (.ref r0)) rfl rfl (pc' := 3) rfl ?_
  refine G.getF B (host := "") (Or.inl (hw _ (List.mem_of_getElem? (i := 28) rfl))) Via.refl O.2.1 d7_3 (pc' := 6) rfl ?_
  refine G.iconst B d7_6 (z := (1 : Int32)) rfl (pc' := 7) rfl ?_
  refine G.isub B d7_7 (pc' := 8) rfl ?_
  refine G.iand B d7_8 (pc' := 9) rfl ?_
  refine G.istoreN B d7_9 (ls' := #[.val (.ref r0), .val (.long q1), .second, .val (.int ((q1.toInt32) &&& (len - (1 : Int32)))), .unset, .unset]) rfl (pc' := 10) rfl ?_
  refine G.aloadN B d7_10 (v := (.ref r0)) rfl rfl (pc' := 11) rfl ?_
  refine G.getF B (host := "") (Or.inl (hw _ (List.mem_of_getElem? (i := 35) rfl))) Via.refl O.2.2.1 d7_11 (pc' := 14) rfl ?_
  refine G.ifnonnull_t (b := sl) B d7_14 (by decide) (pcT := 21) (by decide) ?_
  refine G.aloadN B d7_21 (v := (.ref r0)) rfl rfl (pc' := 22) rfl ?_
  refine G.getF B (host := "") (Or.inl (hw _ (List.mem_of_getElem? (i := 35) rfl))) Via.refl O.2.2.1 d7_22 (pc' := 25) rfl ?_
  refine G.iloadN B d7_25 (v := ((q1.toInt32) &&& (len - (1 : Int32)))) rfl (pc' := 26) rfl ?_
  refine G.ldJ B A (i := (ix len q1)) (own_ix q1 hl hn1).1 (own_ix q1 hl hn1).2 (x := (f (ix len q1))) rfl d7_26 (pc' := 27) rfl ?_
  refine G.lstore B d7_27 (ls' := #[.val (.ref r0), .val (.long q1), .second, .val (.int ((q1.toInt32) &&& (len - (1 : Int32)))), .val (.long (f (ix len q1))), .second]) rfl (pc' := 29) rfl ?_
  refine G.lload B d7_29 (v := (f (ix len q1))) rfl (pc' := 31) rfl ?_
  refine G.lconst B d7_31 (z := (0 : Int64)) rfl (pc' := 32) rfl ?_
  refine G.lcmp_eq B d7_32 rfl d7_33 (by decide) (pcT := 48) (by decide) (pc' := 36) rfl (fun (hc32 : (f (ix len q1)) = (0 : Int64)) => ?_) (fun (hc32 : (f (ix len q1)) ≠ (0 : Int64)) => ?_)
  · refine G.iconst B d7_48 (z := (-1 : Int32)) rfl (pc' := 49) rfl ?_
    exact G.retI B d7_49 (by decide) (by decide) ⟨_, O, A, Or.inl ⟨Or.inl hc32, rfl, rfl⟩⟩
  · refine G.lload B d7_36 (v := (f (ix len q1))) rfl (pc' := 38) rfl ?_
    refine G.lloadN B d7_38 (v := q1) rfl (pc' := 39) rfl ?_
    refine G.lxor B d7_39 (pc' := 40) rfl ?_
    refine G.bipush B d7_40 (z := (32 : Int32)) rfl (pc' := 42) rfl ?_
    refine G.lushr B d7_42 (pc' := 43) rfl ?_
    refine G.lconst B d7_43 (z := (0 : Int64)) rfl (pc' := 44) rfl ?_
    refine G.lcmp_eq B d7_44 rfl d7_45 (by decide) (pcT := 50) (by decide) (pc' := 48) rfl (fun (hc44 : ((((f (ix len q1)) ^^^ q1).toUInt64 >>> ((32 : Int32) &&& 0x3f).toInt64.toUInt64).toInt64) = (0 : Int64)) => ?_) (fun (hc44 : ((((f (ix len q1)) ^^^ q1).toUInt64 >>> ((32 : Int32) &&& 0x3f).toInt64.toUInt64).toInt64) ≠ (0 : Int64)) => ?_)
    · refine G.aloadN B d7_50 (v := (.ref r0)) rfl rfl (pc' := 51) rfl ?_
      refine G.getF B (host := "") (Or.inl (hw _ (List.mem_of_getElem? (i := 35) rfl))) Via.refl O.2.2.1 d7_51 (pc' := 54) rfl ?_
      refine G.iloadN B d7_54 (v := ((q1.toInt32) &&& (len - (1 : Int32)))) rfl (pc' := 55) rfl ?_
      refine G.lconst B d7_55 (z := (0 : Int64)) rfl (pc' := 56) rfl ?_
      refine G.stJ B A (i := (ix len q1)) (own_ix q1 hl hn1).1 (own_ix q1 hl hn1).2 (Or.inl (List.mem_of_getElem? (i := 0) rfl)) d7_56 (pc' := 57) rfl (fun h1 K1 A1 => ?_)
      replace A := A1
      replace hn := Nat.le_trans hn K1.1
      replace hz := Nat.le_trans hz K1.1
      replace O := O.keep K1 (ninS hne nin0)
      refine G.aloadN B d7_57 (v := (.ref r0)) rfl rfl (pc' := 58) rfl ?_
      refine G.getF B (host := "") (Or.inl (hw _ (List.mem_of_getElem? (i := 43) rfl))) Via.refl O.2.2.2 d7_58 (pc' := 61) rfl ?_
      refine G.lload B d7_61 (v := (f (ix len q1))) rfl (pc' := 63) rfl ?_
      refine G.l2i B d7_63 (pc' := 64) rfl ?_
      refine G.isub B d7_64 (pc' := 65) rfl ?_
      exact G.retI B d7_65 (by decide) (by decide) ⟨_, O, A, Or.inr ⟨hc32, hc44, rfl, rfl⟩⟩
    · refine G.iconst B d7_48 (z := (-1 : Int32)) rfl (pc' := 49) rfl ?_
      exact G.retI B d7_49 (by decide) (by decide) ⟨_, O, A, Or.inl ⟨Or.inr hc44, rfl, rfl⟩⟩
theorem own_hiB : ∀ i : Fin 64, (0xFFFFFFFF00000000#64).getLsbD i.val = decide (32 ≤ i.val) := by decide
theorem own_loB : ∀ i : Fin 64, (0x00000000FFFFFFFF#64).getLsbD i.val = decide (i.val < 32) := by decide
theorem own_usB (x : Int64) : (us x).toBitVec = x.toBitVec >>> 32 := by
  unfold us
  rfl
theorem own_vvB (x : Int64) (a : Int32) (i : Nat) (hi : i < 64) : (vv x a).toBitVec.getLsbD i = if i < 32 then a.toBitVec.getLsbD i else x.toBitVec.getLsbD i := by
  unfold vv
  rw [Int64.toBitVec_or, Int64.toBitVec_and, Int64.toBitVec_and, show (-4294967296 : Int64).toBitVec = 0xFFFFFFFF00000000#64 from rfl, show (4294967295 : Int64).toBitVec = 0x00000000FFFFFFFF#64 from rfl, BitVec.getLsbD_or, BitVec.getLsbD_and, BitVec.getLsbD_and, own_hiB ⟨i, hi⟩, own_loB ⟨i, hi⟩, Int32.toBitVec_toInt64, BitVec.getLsbD_signExtend]
  by_cases h : i < 32
  · simp [h, hi, Nat.not_le.mpr h]
  · simp [h, Nat.not_lt.mp h]
theorem own_v1 (x : Int64) (a : Int32) : (vv x a).toInt32 = a := by
  apply Int32.toBitVec_inj.mp
  rw [Int64.toBitVec_toInt32]
  apply BitVec.eq_of_getLsbD_eq
  intro i hi
  rw [BitVec.getLsbD_signExtend, own_vvB x a i (by omega), if_pos hi]
  simp [hi, show i < 64 by omega]
theorem own_v2 (x y : Int64) (a : Int32) : us (vv x a ^^^ y) = 0 ↔ us x = us y := by
  rw [← Int64.toBitVec_inj, ← Int64.toBitVec_inj, own_usB, own_usB, own_usB, Int64.toBitVec_xor]
  constructor
  · intro h
    apply BitVec.eq_of_getLsbD_eq
    intro i hi
    have hb := congrArg (fun z => z.getLsbD i) h
    simp only [BitVec.getLsbD_ushiftRight, BitVec.getLsbD_xor] at hb ⊢
    by_cases q : 32 + i < 64
    · rw [own_vvB x a _ q, if_neg (by omega)] at hb
      have z0 : (0 : Int64).toBitVec.getLsbD i = false := by simp
      rw [z0] at hb
      revert hb
      cases x.toBitVec.getLsbD (32 + i) <;> cases y.toBitVec.getLsbD (32 + i) <;> simp
    · rw [BitVec.getLsbD_of_ge _ _ (by omega), BitVec.getLsbD_of_ge _ _ (by omega)]
  · intro h
    apply BitVec.eq_of_getLsbD_eq
    intro i hi
    have hb := congrArg (fun z => z.getLsbD i) h
    simp only [BitVec.getLsbD_ushiftRight, BitVec.getLsbD_xor] at hb ⊢
    have z0 : (0 : Int64).toBitVec.getLsbD i = false := by simp
    rw [z0]
    by_cases q : 32 + i < 64
    · rw [own_vvB x a _ q, if_neg (by omega), hb]; simp
    · rw [BitVec.getLsbD_of_ge _ _ (by omega), BitVec.getLsbD_of_ge _ _ (by omega)]; rfl
theorem own_v0 (x : Int64) (a : Int32) (h : a ≠ 0) : vv x a ≠ 0 := fun q => h (by rw [← own_v1 x a, q]; rfl)
theorem own_hitY {F f : Nat → Int64} {i : Nat} {x h : Int64} {ad m z : Int32} (e : F i = vv h m) (hm : m ≠ 0) (hu : us h = us x) (g : Fg F i x ad z f) : z = ad - m ∧ f = up F i 0 := by
  unfold Fg at g
  rw [e] at g
  rcases g with ⟨a | a, _⟩ | ⟨_, _, a, b⟩
  · exact absurd a (own_v0 h m hm)
  · exact absurd ((own_v2 h x m).mpr hu) a
  · exact ⟨by rw [a, own_v1], b⟩
theorem own_hitN {F f : Nat → Int64} {i : Nat} {x h : Int64} {ad m z : Int32} (e : F i = vv h m) (hu : us h ≠ us x) (g : Fg F i x ad z f) : z = -1 ∧ f = F := by
  unfold Fg at g
  rw [e] at g
  rcases g with ⟨_, a⟩ | ⟨_, a, _⟩
  · exact a
  · exact absurd ((own_v2 h x m).mp a) hu
theorem own_miss {F f : Nat → Int64} {i : Nat} {x : Int64} {ad z : Int32} (e : F i = 0) (g : Fg F i x ad z f) : z = -1 ∧ f = F := by
  unfold Fg at g
  rcases g with ⟨_, a⟩ | ⟨a, _⟩
  · exact a
  · exact absurd e a
theorem own_twice {F f f' : Nat → Int64} {i : Nat} {x : Int64} {ad z z' : Int32} (g : Fg F i x ad z f) (g' : Fg f i x ad z' f') : z' = -1 ∧ f' = f := by
  unfold Fg at g g'
  rcases g with ⟨a, _, rfl⟩ | ⟨_, _, _, rfl⟩
  · rcases g' with ⟨_, b⟩ | ⟨b, c, _⟩
    · exact b
    · rcases a with a | a
      · exact absurd a b
      · exact absurd c a
  · have e : up F i 0 i = 0 := if_pos rfl
    rcases g' with ⟨_, b⟩ | ⟨b, _⟩
    · exact b
    · exact absurd e b
theorem own_slot {len : Int32} {n : Nat} (hl : len.toInt = (n : Int)) (hn1 : 1 ≤ n ∧ n ≤ 16) (u v : Int64) : (u.toInt32 &&& (len - (1 : Int32))) = (v.toInt32 &&& (len - (1 : Int32))) ↔ ix len u = ix len v := by
  have h1 := (own_ix u hl hn1).1
  have h2 := (own_ix v hl hn1).1
  rw [← Int32.toInt_inj, h1, h2]
  omega
def hg (x : Int64) : Int64 := ((x >>> ((32 : Int32) &&& 0x3f).toInt64).toInt32).toInt64
theorem own_hgB (x : Int64) (i : Nat) (hi : i < 32) : ((x >>> ((32 : Int32) &&& 0x3f).toInt64).toInt32).toBitVec.getLsbD i = x.toBitVec.getLsbD (32 + i) := by
  rw [Int64.toBitVec_toInt32, BitVec.getLsbD_signExtend]
  rw [show (x >>> ((32 : Int32) &&& 0x3f).toInt64).toBitVec = x.toBitVec.sshiftRight 32 from rfl, BitVec.getLsbD_sshiftRight]
  simp [hi, show i < 64 by omega, show 32 + i < 64 by omega, show ¬ 64 ≤ i by omega]
theorem own_hg (x y : Int64) : hg x = hg y ↔ us x = us y := by
  have key : hg x = hg y ↔ ∀ i, i < 32 → x.toBitVec.getLsbD (32 + i) = y.toBitVec.getLsbD (32 + i) := by
    unfold hg
    rw [← Int64.toInt_inj, c_i2l, c_i2l, Int32.toInt_inj, ← Int32.toBitVec_inj]
    constructor
    · intro h i hi
      rw [← own_hgB x i hi, ← own_hgB y i hi, h]
    · intro h
      apply BitVec.eq_of_getLsbD_eq
      intro i hi
      rw [own_hgB x i hi, own_hgB y i hi, h i hi]
  rw [key, ← Int64.toBitVec_inj, own_usB, own_usB]
  constructor
  · intro h
    apply BitVec.eq_of_getLsbD_eq
    intro i hi
    rw [BitVec.getLsbD_ushiftRight, BitVec.getLsbD_ushiftRight]
    by_cases q : i < 32
    · exact h i q
    · rw [BitVec.getLsbD_of_ge _ _ (by omega), BitVec.getLsbD_of_ge _ _ (by omega)]
  · intro h i hi
    have hb := congrArg (fun z => z.getLsbD i) h
    simp only [BitVec.getLsbD_ushiftRight] at hb
    exact hb
theorem d10_0 : decode method_2_code 0 = .ok (.lload_n 0, 1) := by decide +kernel
theorem d10_1 : decode method_2_code 1 = .ok (.bipush 32, 2) := by decide +kernel
theorem d10_3 : decode method_2_code 3 = .ok (.lshr, 1) := by decide +kernel
theorem d10_4 : decode method_2_code 4 = .ok (.l2i, 1) := by decide +kernel
theorem d10_5 : decode method_2_code 5 = .ok (.i2l, 1) := by decide +kernel
theorem d10_6 : decode method_2_code 6 = .ok (.lreturn, 1) := by decide +kernel
theorem pn_10 : plainFor (⟨"com/example/lacuna/lacuna/GhostsForgetPinLaw", "high", "(J)J"⟩ : MethodName) = true := plainFor_of_name (by first | (simp [plainName, overriddenIn]; done) | decide +kernel)
theorem ef_10 (m : MethodId) (q0 : Int64) : entryFrame m #[(.long q0)] 2 = mkF m 0 #[.val (.long q0), .second] [] := by first | (simp [entryFrame, mkF, argsToLocals, Value.category]; done) | rfl
def Qq10 (Z : State) (q0 : Int64)  (h0 : Heap) : Int64 → Heap → Prop := fun z h' => h0 = h' ∧ z = hg q0
abbrev Gg10 (p : Program) (l : Launch) (e : Env) (s : State) (m : MethodId) (below : List Frame) (meth : Method) (c : Code) (n0 : Nat) (h0 : Heap) (Z : State) (q0 : Int64)  (cc ss : Nat) (hh : Heap) (gg : JFrame) : Prop := G p l e ({ frames := 0, cells := 0, slots := 0, locals := 0 } : Room) s m #[(.long q0)] below meth c n0 h0 [] (RJ (Qq10 Z q0  h0)) cc ss hh gg
set_option maxRecDepth 65536 in
set_option maxHeartbeats 40000000 in
theorem rm10 (l : Launch) (Z : State) (a0 : Array Value) (hw : ∀ d ∈ tables_1, d.before a0 Z = true) (q0 : Int64)  (h0 : Heap) (n0 : Nat) (hn : n0 ≤ h0.size)  :
    Mt l Z (⟨"com/example/lacuna/lacuna/GhostsForgetPinLaw", "high", "(J)J"⟩ : MethodName) method_2_code 2 (some .long) [] ({ frames := 0, cells := 0, slots := 0, locals := 0 } : Room) n0 #[(.long q0)] h0 [] (RJ (Qq10 Z q0  h0)) := by
  refine Mt.intro pn_10 hn (fun x hx => nomatch hx) ?_
  have hz : h0.size ≤ h0.size := Nat.le_refl _
  intro p e s m below meth c B
  refine G.entry (ef_10 m q0) ?_
  show Gg10 p l e s m below meth c n0 h0 Z q0  0 0 h0 (mkF m 0 #[.val (.long q0), .second] [])
  refine G.lloadN B d10_0 (v := q0) rfl (pc' := 1) rfl ?_
  refine G.bipush B d10_1 (z := (32 : Int32)) rfl (pc' := 3) rfl ?_
  refine G.lshr B d10_3 (pc' := 4) rfl ?_
  refine G.l2i B d10_4 (pc' := 5) rfl ?_
  refine G.i2l B d10_5 (pc' := 6) rfl ?_
  exact G.retJ B d10_6 (by decide) (by decide) ⟨rfl, rfl⟩
def Ans (h a b k : Int64) (pa pb z : Int32) : Prop := ((b &&& k) = (h &&& k) ∧ pb ≠ 0 ∧ hg b = hg h ∧ z = 0) ∨ ((b &&& k) = (h &&& k) ∧ (pb = 0 ∨ hg b ≠ hg h) ∧ z = -1) ∨ ((b &&& k) ≠ (h &&& k) ∧ (a &&& k) = (h &&& k) ∧ pa ≠ 0 ∧ hg a = hg h ∧ z = 1) ∨ ((b &&& k) ≠ (h &&& k) ∧ (a &&& k) = (h &&& k) ∧ (pa = 0 ∨ hg a ≠ hg h) ∧ z = -1) ∨ ((b &&& k) ≠ (h &&& k) ∧ (a &&& k) ≠ (h &&& k) ∧ z = -1)
theorem d9_0 : decode method_3_code 0 = .ok (.lload_n 0, 1) := by decide +kernel
theorem d9_1 : decode method_3_code 1 = .ok (.lload 6, 2) := by decide +kernel
theorem d9_3 : decode method_3_code 3 = .ok (.land, 1) := by decide +kernel
theorem d9_4 : decode method_3_code 4 = .ok (.lstore 10, 2) := by decide +kernel
theorem d9_6 : decode method_3_code 6 = .ok (.lload 4, 2) := by decide +kernel
theorem d9_8 : decode method_3_code 8 = .ok (.lload 6, 2) := by decide +kernel
theorem d9_10 : decode method_3_code 10 = .ok (.land, 1) := by decide +kernel
theorem d9_11 : decode method_3_code 11 = .ok (.lload 10, 2) := by decide +kernel
theorem d9_13 : decode method_3_code 13 = .ok (.lcmp, 1) := by decide +kernel
theorem d9_14 : decode method_3_code 14 = .ok (.ifCond .ne 27, 3) := by decide +kernel
theorem d9_17 : decode method_3_code 17 = .ok (.iload 9, 2) := by decide +kernel
theorem d9_19 : decode method_3_code 19 = .ok (.ifCond .eq 20, 3) := by decide +kernel
theorem d9_22 : decode method_3_code 22 = .ok (.lload 4, 2) := by decide +kernel
theorem d9_24 : decode method_3_code 24 = .ok (.invokestatic 7, 3) := by decide +kernel
theorem d9_27 : decode method_3_code 27 = .ok (.lload_n 0, 1) := by decide +kernel
theorem d9_28 : decode method_3_code 28 = .ok (.invokestatic 7, 3) := by decide +kernel
theorem d9_31 : decode method_3_code 31 = .ok (.lcmp, 1) := by decide +kernel
theorem d9_32 : decode method_3_code 32 = .ok (.ifCond .ne 7, 3) := by decide +kernel
theorem d9_35 : decode method_3_code 35 = .ok (.iconst 0, 1) := by decide +kernel
theorem d9_36 : decode method_3_code 36 = .ok (.goto 4, 3) := by decide +kernel
theorem d9_39 : decode method_3_code 39 = .ok (.iconst (-1), 1) := by decide +kernel
theorem d9_40 : decode method_3_code 40 = .ok (.ireturn, 1) := by decide +kernel
theorem d9_41 : decode method_3_code 41 = .ok (.lload_n 2, 1) := by decide +kernel
theorem d9_42 : decode method_3_code 42 = .ok (.lload 6, 2) := by decide +kernel
theorem d9_44 : decode method_3_code 44 = .ok (.land, 1) := by decide +kernel
theorem d9_45 : decode method_3_code 45 = .ok (.lload 10, 2) := by decide +kernel
theorem d9_47 : decode method_3_code 47 = .ok (.lcmp, 1) := by decide +kernel
theorem d9_48 : decode method_3_code 48 = .ok (.ifCond .ne 26, 3) := by decide +kernel
theorem d9_51 : decode method_3_code 51 = .ok (.iload 8, 2) := by decide +kernel
theorem d9_53 : decode method_3_code 53 = .ok (.ifCond .eq 19, 3) := by decide +kernel
theorem d9_56 : decode method_3_code 56 = .ok (.lload_n 2, 1) := by decide +kernel
theorem d9_57 : decode method_3_code 57 = .ok (.invokestatic 7, 3) := by decide +kernel
theorem d9_60 : decode method_3_code 60 = .ok (.lload_n 0, 1) := by decide +kernel
theorem d9_61 : decode method_3_code 61 = .ok (.invokestatic 7, 3) := by decide +kernel
theorem d9_64 : decode method_3_code 64 = .ok (.lcmp, 1) := by decide +kernel
theorem d9_65 : decode method_3_code 65 = .ok (.ifCond .ne 7, 3) := by decide +kernel
theorem d9_68 : decode method_3_code 68 = .ok (.iconst 1, 1) := by decide +kernel
theorem d9_69 : decode method_3_code 69 = .ok (.goto 4, 3) := by decide +kernel
theorem d9_72 : decode method_3_code 72 = .ok (.iconst (-1), 1) := by decide +kernel
theorem d9_73 : decode method_3_code 73 = .ok (.ireturn, 1) := by decide +kernel
theorem d9_74 : decode method_3_code 74 = .ok (.iconst (-1), 1) := by decide +kernel
theorem d9_75 : decode method_3_code 75 = .ok (.ireturn, 1) := by decide +kernel
theorem pn_9 : plainFor (⟨"com/example/lacuna/lacuna/GhostsForgetPinLaw", "answer", "(JJJJZZ)I"⟩ : MethodName) = true := plainFor_of_name (by first | (simp [plainName, overriddenIn]; done) | decide +kernel)
theorem ef_9 (m : MethodId) (q0 : Int64) (q1 : Int64) (q2 : Int64) (q3 : Int64) (p4 : Int32) (p5 : Int32) : entryFrame m #[(.long q0), (.long q1), (.long q2), (.long q3), (.int p4), (.int p5)] 12 = mkF m 0 #[.val (.long q0), .second, .val (.long q1), .second, .val (.long q2), .second, .val (.long q3), .second, .val (.int p4), .val (.int p5), .unset, .unset] [] := by first | (simp [entryFrame, mkF, argsToLocals, Value.category]; done) | rfl
theorem pd_3 : parseMethodDescriptor "(J)J" = some ⟨[.long], some .long⟩ := by decide +kernel
def Qq9 (Z : State) (q0 : Int64) (q1 : Int64) (q2 : Int64) (q3 : Int64) (p4 : Int32) (p5 : Int32)  (h0 : Heap) : Int32 → Heap → Prop := fun z h' => h0 = h' ∧ Ans q0 q1 q2 q3 p4 p5 z
abbrev Gg9 (p : Program) (l : Launch) (e : Env) (s : State) (m : MethodId) (below : List Frame) (meth : Method) (c : Code) (n0 : Nat) (h0 : Heap) (Z : State) (q0 : Int64) (q1 : Int64) (q2 : Int64) (q3 : Int64) (p4 : Int32) (p5 : Int32)  (cc ss : Nat) (hh : Heap) (gg : JFrame) : Prop := G p l e ({ frames := 1, cells := 0, slots := 0, locals := 15 } : Room) s m #[(.long q0), (.long q1), (.long q2), (.long q3), (.int p4), (.int p5)] below meth c n0 h0 [] (RI (Qq9 Z q0 q1 q2 q3 p4 p5  h0)) cc ss hh gg
set_option maxRecDepth 65536 in
set_option maxHeartbeats 40000000 in
theorem rm9 (l : Launch) (Z : State) (a0 : Array Value) (hw : ∀ d ∈ tables_1, d.before a0 Z = true) (q0 : Int64) (q1 : Int64) (q2 : Int64) (q3 : Int64) (p4 : Int32) (p5 : Int32)  (h0 : Heap) (n0 : Nat) (hn : n0 ≤ h0.size)  :
    Mt l Z (⟨"com/example/lacuna/lacuna/GhostsForgetPinLaw", "answer", "(JJJJZZ)I"⟩ : MethodName) method_3_code 12 (some .int) [] ({ frames := 1, cells := 0, slots := 0, locals := 15 } : Room) n0 #[(.long q0), (.long q1), (.long q2), (.long q3), (.int p4), (.int p5)] h0 [] (RI (Qq9 Z q0 q1 q2 q3 p4 p5  h0)) := by
  refine Mt.intro pn_9 hn (fun x hx => nomatch hx) ?_
  have hz : h0.size ≤ h0.size := Nat.le_refl _
  intro p e s m below meth c B
  refine G.entry (ef_9 m q0 q1 q2 q3 p4 p5) ?_
  show Gg9 p l e s m below meth c n0 h0 Z q0 q1 q2 q3 p4 p5  0 0 h0 (mkF m 0 #[.val (.long q0), .second, .val (.long q1), .second, .val (.long q2), .second, .val (.long q3), .second, .val (.int p4), .val (.int p5), .unset, .unset] [])
  refine G.lloadN B d9_0 (v := q0) rfl (pc' := 1) rfl ?_
  refine G.lload B d9_1 (v := q3) rfl (pc' := 3) rfl ?_
  refine G.land B d9_3 (pc' := 4) rfl ?_
  refine G.lstore B d9_4 (ls' := #[.val (.long q0), .second, .val (.long q1), .second, .val (.long q2), .second, .val (.long q3), .second, .val (.int p4), .val (.int p5), .val (.long (q0 &&& q3)), .second]) rfl (pc' := 6) rfl ?_
  refine G.lload B d9_6 (v := q2) rfl (pc' := 8) rfl ?_
  refine G.lload B d9_8 (v := q3) rfl (pc' := 10) rfl ?_
  refine G.land B d9_10 (pc' := 11) rfl ?_
  refine G.lload B d9_11 (v := (q0 &&& q3)) rfl (pc' := 13) rfl ?_
  refine G.lcmp_ne B d9_13 rfl d9_14 (by decide) (pcT := 41) (by decide) (pc' := 17) rfl (fun (hc13 : (q2 &&& q3) ≠ (q0 &&& q3)) => ?_) (fun (hc13 : (q2 &&& q3) = (q0 &&& q3)) => ?_)
  · refine G.lloadN B d9_41 (v := q1) rfl (pc' := 42) rfl ?_
    refine G.lload B d9_42 (v := q3) rfl (pc' := 44) rfl ?_
    refine G.land B d9_44 (pc' := 45) rfl ?_
    refine G.lload B d9_45 (v := (q0 &&& q3)) rfl (pc' := 47) rfl ?_
    refine G.lcmp_ne B d9_47 rfl d9_48 (by decide) (pcT := 74) (by decide) (pc' := 51) rfl (fun (hc47 : (q1 &&& q3) ≠ (q0 &&& q3)) => ?_) (fun (hc47 : (q1 &&& q3) = (q0 &&& q3)) => ?_)
    · refine G.iconst B d9_74 (z := (-1 : Int32)) rfl (pc' := 75) rfl ?_
      exact G.retI B d9_75 (by decide) (by decide) ⟨rfl, Or.inr (Or.inr (Or.inr (Or.inr ⟨hc13, hc47, rfl⟩)))⟩
    · refine G.iload B d9_51 (v := p4) rfl (pc' := 53) rfl ?_
      refine G.if_eq B d9_53 (by decide) (pcT := 72) (by decide) (pc' := 56) rfl (fun (hc53 : p4 = 0) => ?_) (fun (hc53 : p4 ≠ 0) => ?_)
      · refine G.iconst B d9_72 (z := (-1 : Int32)) rfl (pc' := 73) rfl ?_
        exact G.retI B d9_73 (by decide) (by decide) ⟨rfl, Or.inr (Or.inr (Or.inr (Or.inl ⟨hc13, hc47, Or.inl hc53, rfl⟩)))⟩
      · refine G.lloadN B d9_56 (v := q1) rfl (pc' := 57) rfl ?_
        refine G.callS (y := (⟨"com/example/lacuna/lacuna/GhostsForgetPinLaw", "high", "(J)J"⟩ : MethodName)) B (hw _ (List.mem_of_getElem? (i := 51) rfl)) (hw _ (List.mem_of_getElem? (i := 52) rfl)) (rm := ({ frames := 0, cells := 0, slots := 0, locals := 0 } : Room)) (ws' := []) (rm10 l Z a0 hw q1 _ n0 hn) (fun x hx => nomatch hx) (hw _ (List.mem_of_getElem? (i := 53) rfl)) (hw _ (List.mem_of_getElem? (i := 49) rfl)) (by decide) rfl (argsL := [(.long q1)]) (rest := []) rfl (lenOf pd_3 rfl) (by decide) (W := 0) (Nat.le_of_eq rfl) (by decide) (by decide) (by decide) d9_57 (pc' := 60) rfl ?_
        rintro _ _ K1 ⟨z, rfl, rfl, rfl⟩
        show Gg9 p l e s m below meth c n0 h0 Z q0 q1 q2 q3 p4 p5  0 0 h0 (mkF m 60 #[.val (.long q0), .second, .val (.long q1), .second, .val (.long q2), .second, .val (.long q3), .second, .val (.int p4), .val (.int p5), .val (.long (q0 &&& q3)), .second] [(.long (hg q1))])
        refine G.lloadN B d9_60 (v := q0) rfl (pc' := 61) rfl ?_
        refine G.callS (y := (⟨"com/example/lacuna/lacuna/GhostsForgetPinLaw", "high", "(J)J"⟩ : MethodName)) B (hw _ (List.mem_of_getElem? (i := 51) rfl)) (hw _ (List.mem_of_getElem? (i := 52) rfl)) (rm := ({ frames := 0, cells := 0, slots := 0, locals := 0 } : Room)) (ws' := []) (rm10 l Z a0 hw q0 _ n0 hn) (fun x hx => nomatch hx) (hw _ (List.mem_of_getElem? (i := 53) rfl)) (hw _ (List.mem_of_getElem? (i := 49) rfl)) (by decide) rfl (argsL := [(.long q0)]) (rest := [(.long (hg q1))]) rfl (lenOf pd_3 rfl) (by decide) (W := 2) (Nat.le_of_eq rfl) (by decide) (by decide) (by decide) d9_61 (pc' := 64) rfl ?_
        rintro _ _ K2 ⟨z, rfl, rfl, rfl⟩
        show Gg9 p l e s m below meth c n0 h0 Z q0 q1 q2 q3 p4 p5  0 0 h0 (mkF m 64 #[.val (.long q0), .second, .val (.long q1), .second, .val (.long q2), .second, .val (.long q3), .second, .val (.int p4), .val (.int p5), .val (.long (q0 &&& q3)), .second] [(.long (hg q0)), (.long (hg q1))])
        refine G.lcmp_ne B d9_64 rfl d9_65 (by decide) (pcT := 72) (by decide) (pc' := 68) rfl (fun (hc64 : (hg q1) ≠ (hg q0)) => ?_) (fun (hc64 : (hg q1) = (hg q0)) => ?_)
        · refine G.iconst B d9_72 (z := (-1 : Int32)) rfl (pc' := 73) rfl ?_
          exact G.retI B d9_73 (by decide) (by decide) ⟨rfl, Or.inr (Or.inr (Or.inr (Or.inl ⟨hc13, hc47, Or.inr hc64, rfl⟩)))⟩
        · refine G.iconst B d9_68 (z := (1 : Int32)) rfl (pc' := 69) rfl ?_
          refine G.goto B d9_69 (by decide) (pc' := 73) (by decide) ?_
          exact G.retI B d9_73 (by decide) (by decide) ⟨rfl, Or.inr (Or.inr (Or.inl ⟨hc13, hc47, hc53, hc64, rfl⟩))⟩
  · refine G.iload B d9_17 (v := p5) rfl (pc' := 19) rfl ?_
    refine G.if_eq B d9_19 (by decide) (pcT := 39) (by decide) (pc' := 22) rfl (fun (hc19 : p5 = 0) => ?_) (fun (hc19 : p5 ≠ 0) => ?_)
    · refine G.iconst B d9_39 (z := (-1 : Int32)) rfl (pc' := 40) rfl ?_
      exact G.retI B d9_40 (by decide) (by decide) ⟨rfl, Or.inr (Or.inl ⟨hc13, Or.inl hc19, rfl⟩)⟩
    · refine G.lload B d9_22 (v := q2) rfl (pc' := 24) rfl ?_
      refine G.callS (y := (⟨"com/example/lacuna/lacuna/GhostsForgetPinLaw", "high", "(J)J"⟩ : MethodName)) B (hw _ (List.mem_of_getElem? (i := 51) rfl)) (hw _ (List.mem_of_getElem? (i := 52) rfl)) (rm := ({ frames := 0, cells := 0, slots := 0, locals := 0 } : Room)) (ws' := []) (rm10 l Z a0 hw q2 _ n0 hn) (fun x hx => nomatch hx) (hw _ (List.mem_of_getElem? (i := 53) rfl)) (hw _ (List.mem_of_getElem? (i := 49) rfl)) (by decide) rfl (argsL := [(.long q2)]) (rest := []) rfl (lenOf pd_3 rfl) (by decide) (W := 0) (Nat.le_of_eq rfl) (by decide) (by decide) (by decide) d9_24 (pc' := 27) rfl ?_
      rintro _ _ K3 ⟨z, rfl, rfl, rfl⟩
      show Gg9 p l e s m below meth c n0 h0 Z q0 q1 q2 q3 p4 p5  0 0 h0 (mkF m 27 #[.val (.long q0), .second, .val (.long q1), .second, .val (.long q2), .second, .val (.long q3), .second, .val (.int p4), .val (.int p5), .val (.long (q0 &&& q3)), .second] [(.long (hg q2))])
      refine G.lloadN B d9_27 (v := q0) rfl (pc' := 28) rfl ?_
      refine G.callS (y := (⟨"com/example/lacuna/lacuna/GhostsForgetPinLaw", "high", "(J)J"⟩ : MethodName)) B (hw _ (List.mem_of_getElem? (i := 51) rfl)) (hw _ (List.mem_of_getElem? (i := 52) rfl)) (rm := ({ frames := 0, cells := 0, slots := 0, locals := 0 } : Room)) (ws' := []) (rm10 l Z a0 hw q0 _ n0 hn) (fun x hx => nomatch hx) (hw _ (List.mem_of_getElem? (i := 53) rfl)) (hw _ (List.mem_of_getElem? (i := 49) rfl)) (by decide) rfl (argsL := [(.long q0)]) (rest := [(.long (hg q2))]) rfl (lenOf pd_3 rfl) (by decide) (W := 2) (Nat.le_of_eq rfl) (by decide) (by decide) (by decide) d9_28 (pc' := 31) rfl ?_
      rintro _ _ K4 ⟨z, rfl, rfl, rfl⟩
      show Gg9 p l e s m below meth c n0 h0 Z q0 q1 q2 q3 p4 p5  0 0 h0 (mkF m 31 #[.val (.long q0), .second, .val (.long q1), .second, .val (.long q2), .second, .val (.long q3), .second, .val (.int p4), .val (.int p5), .val (.long (q0 &&& q3)), .second] [(.long (hg q0)), (.long (hg q2))])
      refine G.lcmp_ne B d9_31 rfl d9_32 (by decide) (pcT := 39) (by decide) (pc' := 35) rfl (fun (hc31 : (hg q2) ≠ (hg q0)) => ?_) (fun (hc31 : (hg q2) = (hg q0)) => ?_)
      · refine G.iconst B d9_39 (z := (-1 : Int32)) rfl (pc' := 40) rfl ?_
        exact G.retI B d9_40 (by decide) (by decide) ⟨rfl, Or.inr (Or.inl ⟨hc13, Or.inr hc31, rfl⟩)⟩
      · refine G.iconst B d9_35 (z := (0 : Int32)) rfl (pc' := 36) rfl ?_
        refine G.goto B d9_36 (by decide) (pc' := 40) (by decide) ?_
        exact G.retI B d9_40 (by decide) (by decide) ⟨rfl, Or.inl ⟨hc13, hc19, hc31, rfl⟩⟩
theorem own_ks (x : Int32) : 1 ≤ ((1 : Int32) + (x &&& (3 : Int32))).toInt ∧ ((1 : Int32) + (x &&& (3 : Int32))).toInt ≤ 4 := by
  have h := c_mask x 3 2 (by decide) (by decide)
  have h1 := c_iadd 1 (x &&& (3 : Int32))
  have h2 : (1 : Int32).toInt = 1 := by decide
  have h3 := rng32 ((1 : Int32) + (x &&& (3 : Int32)))
  omega
theorem own_sm {len : Int32} {k : Int64} (h : (len = 2 ∧ k = 1) ∨ (len = 4 ∧ k = 3) ∨ (len = 8 ∧ k = 7)) (u : Int64) : (u &&& k).toInt = (u.toInt32 &&& (len - (1 : Int32))).toInt := by
  have hl := c_l2i u
  rcases h with ⟨rfl, rfl⟩ | ⟨rfl, rfl⟩ | ⟨rfl, rfl⟩
  · have h1 := c_maskL u 1 1 (by decide) (by decide)
    have h2 := c_mask u.toInt32 ((2 : Int32) - (1 : Int32)) 1 (by decide) (by decide)
    omega
  · have h1 := c_maskL u 3 2 (by decide) (by decide)
    have h2 := c_mask u.toInt32 ((4 : Int32) - (1 : Int32)) 2 (by decide) (by decide)
    omega
  · have h1 := c_maskL u 7 3 (by decide) (by decide)
    have h2 := c_mask u.toInt32 ((8 : Int32) - (1 : Int32)) 3 (by decide) (by decide)
    omega
theorem own_S {len : Int32} {k : Int64} {n : Nat} (h : (len = 2 ∧ k = 1) ∨ (len = 4 ∧ k = 3) ∨ (len = 8 ∧ k = 7)) (hl : len.toInt = (n : Int)) (hn1 : 1 ≤ n ∧ n ≤ 16) (u v : Int64) : (u &&& k) = (v &&& k) ↔ ix len u = ix len v := by
  have h1 := (own_ix u hl hn1).1
  have h2 := (own_ix v hl hn1).1
  rw [← Int64.toInt_inj, own_sm h u, own_sm h v, h1, h2]
  omega
/-- what the table holds: b's record at its slot while pb, a's at its own while pa, nothing else -/
def Inv (len : Int32) (a b : Int64) (f : Nat → Int64) (pa pb : Int32) : Prop := (f (ix len b) = if pb = 0 then 0 else vv b (((0 : Int32) + 1) + 1)) ∧ (ix len a ≠ ix len b → f (ix len a) = if pa = 0 then 0 else vv a ((0 : Int32) + 1)) ∧ ∀ i, i ≠ ix len a → i ≠ ix len b → f i = 0
theorem own_step {len : Int32} {k a b h : Int64} {n : Nat} {f f' : Nat → Int64} {pa pb z e pa' pb' : Int32} (hs : (len = 2 ∧ k = 1) ∨ (len = 4 ∧ k = 3) ∨ (len = 8 ∧ k = 7)) (hl : len.toInt = (n : Int)) (hn1 : 1 ≤ n ∧ n ≤ 16)
    (I : Inv len a b f pa pb) (g : Fg f (ix len h) h (((0 : Int32) + 1) + 1) z f') (an : Ans h a b k pa pb e) :
    z = e ∧ (((e ≠ 0 ∧ pb' = pb) ∨ (e = 0 ∧ pb' = 0)) → ((e ≠ 1 ∧ pa' = pa) ∨ (e = 1 ∧ pa' = 0)) → Inv len a b f' pa' pb') := by
  obtain ⟨i1, i2, i3⟩ := I
  have S := own_S hs hl hn1
  unfold Ans at an
  simp only [ne_eq, S, own_hg] at an
  have n1 : ((0 : Int32) + 1) ≠ 0 := by decide
  have n2 : (((0 : Int32) + 1) + 1) ≠ 0 := by decide
  have same : ∀ {e : Int32}, e = -1 → (((e ≠ 0 ∧ pb' = pb) ∨ (e = 0 ∧ pb' = 0)) → ((e ≠ 1 ∧ pa' = pa) ∨ (e = 1 ∧ pa' = 0)) → Inv len a b f pa' pb') := by
    rintro e rfl q1 q2
    rcases q1 with ⟨_, rfl⟩ | ⟨q, _⟩
    · rcases q2 with ⟨_, rfl⟩ | ⟨q, _⟩
      · exact ⟨i1, i2, i3⟩
      · exact absurd q (by decide)
    · exact absurd q (by decide)
  rcases an with ⟨s, p, u, rfl⟩ | ⟨s, p, rfl⟩ | ⟨s, t, p, u, rfl⟩ | ⟨s, t, p, rfl⟩ | ⟨s, t, rfl⟩
  · rw [if_neg p, s] at i1
    obtain ⟨e1, rfl⟩ := own_hitY i1 n2 u g
    refine ⟨by rw [e1]; decide, fun q1 q2 => ?_⟩
    rcases q1 with ⟨q, _⟩ | ⟨_, rfl⟩
    · exact absurd rfl q
    · rcases q2 with ⟨_, rfl⟩ | ⟨q, _⟩
      · refine ⟨?_, fun r => ?_, fun i r1 r2 => ?_⟩
        · rw [if_pos rfl, s]; exact if_pos rfl
        · rw [← i2 r]; exact if_neg (fun w => r (w.trans s.symm))
        · rw [← i3 i r1 r2]; exact if_neg (fun w => r2 (w.trans s.symm))
      · exact absurd q (by decide)
  · have hz : z = -1 ∧ f' = f := by
      rcases p with p | p
      · rw [if_pos p, s] at i1; exact own_miss i1 g
      · by_cases q : pb = 0
        · rw [if_pos q, s] at i1; exact own_miss i1 g
        · rw [if_neg q, s] at i1; exact own_hitN i1 p g
    obtain ⟨e1, rfl⟩ := hz
    exact ⟨e1, same rfl⟩
  · have hne : ix len a ≠ ix len b := fun q => s (q.symm.trans t)
    have j2 := i2 hne
    rw [if_neg p, t] at j2
    obtain ⟨e1, rfl⟩ := own_hitY j2 n1 u g
    refine ⟨by rw [e1]; decide, fun q1 q2 => ?_⟩
    rcases q1 with ⟨_, rfl⟩ | ⟨q, _⟩
    · rcases q2 with ⟨q, _⟩ | ⟨_, rfl⟩
      · exact absurd rfl q
      · refine ⟨?_, fun r => ?_, fun i r1 r2 => ?_⟩
        · rw [← i1]; exact if_neg s
        · rw [if_pos rfl, t]; exact if_pos rfl
        · rw [← i3 i r1 r2]; exact if_neg (fun w => r1 (w.trans t.symm))
    · exact absurd q (by decide)
  · have hne : ix len a ≠ ix len b := fun q => s (q.symm.trans t)
    have j2 := i2 hne
    have hz : z = -1 ∧ f' = f := by
      rcases p with p | p
      · rw [if_pos p, t] at j2; exact own_miss j2 g
      · by_cases q : pa = 0
        · rw [if_pos q, t] at j2; exact own_miss j2 g
        · rw [if_neg q, t] at j2; exact own_hitN j2 p g
    obtain ⟨e1, rfl⟩ := hz
    exact ⟨e1, same rfl⟩
  · obtain ⟨e1, rfl⟩ := own_miss (i3 _ (fun q => t q.symm) (fun q => s q.symm)) g
    exact ⟨e1, same rfl⟩
theorem pn_0 : plainFor x = true := plainFor_of_name (by first | (simp [plainName, overriddenIn]; done) | decide +kernel)
theorem ef_0 (m : MethodId) (p0 : Int32) (q1 : Int64) (q2 : Int64) (q3 : Int64) (p4 : Int32) : entryFrame m #[(.int p0), (.long q1), (.long q2), (.long q3), (.int p4)] maxLocals = mkF m 0 #[.val (.int p0), .val (.long q1), .second, .val (.long q2), .second, .val (.long q3), .second, .val (.int p4), .unset, .unset, .unset, .unset, .unset, .unset, .unset, .unset, .unset, .unset, .unset, .unset, .unset, .unset, .unset, .unset, .unset] [] := by first | (simp [entryFrame, mkF, argsToLocals, Value.category, maxLocals]; done) | rfl
theorem pd_4 : parseMethodDescriptor "(J)V" = some ⟨[.long], none⟩ := by decide +kernel
theorem pd_5 : parseMethodDescriptor "(J)I" = some ⟨[.long], some .int⟩ := by decide +kernel
theorem pd_6 : parseMethodDescriptor "(JJJJZZ)I" = some ⟨[.long, .long, .long, .long, .boolean, .boolean], some .int⟩ := by decide +kernel
def Qq0 (Z : State) (p0 : Int32) (q1 : Int64) (q2 : Int64) (q3 : Int64) (p4 : Int32)  (h0 : Heap) : Int32 → Heap → Prop := fun z _ => z = 1
abbrev Gg0 (p : Program) (l : Launch) (e : Env) (s : State) (m : MethodId) (below : List Frame) (meth : Method) (c : Code) (n0 : Nat) (h0 : Heap) (Z : State) (p0 : Int32) (q1 : Int64) (q2 : Int64) (q3 : Int64) (p4 : Int32)  (cc ss : Nat) (hh : Heap) (gg : JFrame) : Prop := G p l e room_1 s m #[(.int p0), (.long q1), (.long q2), (.long q3), (.int p4)] below meth c n0 h0 [] (RI (Qq0 Z p0 q1 q2 q3 p4  h0)) cc ss hh gg
set_option maxRecDepth 65536 in
set_option maxHeartbeats 40000000 in
theorem rm0 (l : Launch) (Z : State) (a0 : Array Value) (hw : ∀ d ∈ tables_1, d.before a0 Z = true) (p0 : Int32) (q1 : Int64) (q2 : Int64) (q3 : Int64) (p4 : Int32)  (h0 : Heap) (n0 : Nat) (hn : n0 ≤ h0.size)  :
    Mt l Z x code maxLocals ret tables_1 room_1 n0 #[(.int p0), (.long q1), (.long q2), (.long q3), (.int p4)] h0 [] (RI (Qq0 Z p0 q1 q2 q3 p4  h0)) := by
  refine Mt.intro pn_0 hn (fun x hx => nomatch hx) ?_
  have hz : h0.size ≤ h0.size := Nat.le_refl _
  intro p e s m below meth c B
  refine G.entry (ef_0 m p0 q1 q2 q3 p4) ?_
  show Gg0 p l e s m below meth c n0 h0 Z p0 q1 q2 q3 p4  0 0 h0 (mkF m 0 #[.val (.int p0), .val (.long q1), .second, .val (.long q2), .second, .val (.long q3), .second, .val (.int p4), .unset, .unset, .unset, .unset, .unset, .unset, .unset, .unset, .unset, .unset, .unset, .unset, .unset, .unset, .unset, .unset, .unset] [])
  refine G.iconst B at_0 (z := (1 : Int32)) rfl (pc' := 1) rfl ?_
  refine G.iloadN B at_1 (v := p0) rfl (pc' := 2) rfl ?_
  refine G.iconst B at_2 (z := (3 : Int32)) rfl (pc' := 3) rfl ?_
  refine G.iand B at_3 (pc' := 4) rfl ?_
  refine G.iadd B at_4 (pc' := 5) rfl ?_
  refine G.istore B at_5 (ls' := #[.val (.int p0), .val (.long q1), .second, .val (.long q2), .second, .val (.long q3), .second, .val (.int p4), .val (.int ((1 : Int32) + (p0 &&& (3 : Int32)))), .unset, .unset, .unset, .unset, .unset, .unset, .unset, .unset, .unset, .unset, .unset, .unset, .unset, .unset, .unset, .unset]) rfl (pc' := 7) rfl ?_
  obtain ⟨ks, e_ks⟩ : ∃ z, z = ((1 : Int32) + (p0 &&& (3 : Int32))) := ⟨_, rfl⟩
  rw [← e_ks]
  show Gg0 p l e s m below meth c n0 h0 Z p0 q1 q2 q3 p4  0 0 h0 (mkF m 7 #[.val (.int p0), .val (.long q1), .second, .val (.long q2), .second, .val (.long q3), .second, .val (.int p4), .val (.int ks), .unset, .unset, .unset, .unset, .unset, .unset, .unset, .unset, .unset, .unset, .unset, .unset, .unset, .unset, .unset, .unset] [])
  have hks : 1 ≤ ks.toInt ∧ ks.toInt ≤ 4 := e_ks ▸ own_ks p0
  refine G.iload B at_7 (v := ks) rfl (pc' := 9) rfl ?_
  refine G.iconst B at_9 (z := (1 : Int32)) rfl (pc' := 10) rfl ?_
  suffices K32 : ∀ (mk : Int64), ((ks ≠ (1 : Int32) ∧ ks ≠ (2 : Int32) ∧ mk = (7 : Int64)) ∨ (ks ≠ (1 : Int32) ∧ ks = (2 : Int32) ∧ mk = (3 : Int64)) ∨ (ks = (1 : Int32) ∧ mk = (1 : Int64))) → Gg0 p l e s m below meth c n0 h0 Z p0 q1 q2 q3 p4  0 0 h0 (mkF m 32 #[.val (.int p0), .val (.long q1), .second, .val (.long q2), .second, .val (.long q3), .second, .val (.int p4), .val (.int ks), .unset, .unset, .unset, .unset, .unset, .unset, .unset, .unset, .unset, .unset, .unset, .unset, .unset, .unset, .unset, .unset] [(.long mk)]) by
    refine G.icmp_ne B at_10 (by decide) (pcT := 17) (by decide) (pc' := 13) rfl (fun (hc10 : ks ≠ (1 : Int32)) => ?_) (fun (hc10 : ks = (1 : Int32)) => ?_)
    · refine G.iload B at_17 (v := ks) rfl (pc' := 19) rfl ?_
      refine G.iconst B at_19 (z := (2 : Int32)) rfl (pc' := 20) rfl ?_
      refine G.icmp_ne B at_20 (by decide) (pcT := 29) (by decide) (pc' := 23) rfl (fun (hc20 : ks ≠ (2 : Int32)) => ?_) (fun (hc20 : ks = (2 : Int32)) => ?_)
      · refine G.ldc2 B (hw _ (List.mem_of_getElem? (i := 54) rfl)) at_29 (pc' := 32) rfl ?_
        exact K32 (7 : Int64) (Or.inl ⟨hc10, hc20, rfl⟩)
      · refine G.ldc2 B (hw _ (List.mem_of_getElem? (i := 56) rfl)) at_23 (pc' := 26) rfl ?_
        refine G.goto B at_26 (by decide) (pc' := 32) (by decide) ?_
        exact K32 (3 : Int64) (Or.inr (Or.inl ⟨hc10, hc20, rfl⟩))
    · refine G.lconst B at_13 (z := (1 : Int64)) rfl (pc' := 14) rfl ?_
      refine G.goto B at_14 (by decide) (pc' := 32) (by decide) ?_
      exact K32 (1 : Int64) (Or.inr (Or.inr ⟨hc10, rfl⟩))
  intro mk hj32
  refine G.lstore B at_32 (ls' := #[.val (.int p0), .val (.long q1), .second, .val (.long q2), .second, .val (.long q3), .second, .val (.int p4), .val (.int ks), .val (.long mk), .second, .unset, .unset, .unset, .unset, .unset, .unset, .unset, .unset, .unset, .unset, .unset, .unset, .unset, .unset]) rfl (pc' := 34) rfl ?_
  refine G.lloadN B at_34 (v := q1) rfl (pc' := 35) rfl ?_
  refine G.ldc2 B (hw _ (List.mem_of_getElem? (i := 0) rfl)) at_35 (pc' := 38) rfl ?_
  refine G.land B at_38 (pc' := 39) rfl ?_
  refine G.lstore B at_39 (ls' := #[.val (.int p0), .val (.long q1), .second, .val (.long q2), .second, .val (.long q3), .second, .val (.int p4), .val (.int ks), .val (.long mk), .second, .val (.long (q1 &&& (-4294967296 : Int64))), .second, .unset, .unset, .unset, .unset, .unset, .unset, .unset, .unset, .unset, .unset, .unset, .unset]) rfl (pc' := 41) rfl ?_
  refine G.iload B at_41 (v := p4) rfl (pc' := 43) rfl ?_
  refine G.iconst B at_43 (z := (4 : Int32)) rfl (pc' := 44) rfl ?_
  refine G.iand B at_44 (pc' := 45) rfl ?_
  suffices K60 : ∀ (b : Int64), (((p4 &&& (4 : Int32)) = 0 ∧ b = q2) ∨ ((p4 &&& (4 : Int32)) ≠ 0 ∧ b = ((q1 &&& (-4294967296 : Int64)) ||| (q2 &&& (4294967295 : Int64))))) → Gg0 p l e s m below meth c n0 h0 Z p0 q1 q2 q3 p4  0 0 h0 (mkF m 60 #[.val (.int p0), .val (.long q1), .second, .val (.long q2), .second, .val (.long q3), .second, .val (.int p4), .val (.int ks), .val (.long mk), .second, .val (.long (q1 &&& (-4294967296 : Int64))), .second, .unset, .unset, .unset, .unset, .unset, .unset, .unset, .unset, .unset, .unset, .unset, .unset] [(.long b)]) by
    refine G.if_eq B at_45 (by decide) (pcT := 59) (by decide) (pc' := 48) rfl (fun (hc45 : (p4 &&& (4 : Int32)) = 0) => ?_) (fun (hc45 : (p4 &&& (4 : Int32)) ≠ 0) => ?_)
    · refine G.lloadN B at_59 (v := q2) rfl (pc' := 60) rfl ?_
      exact K60 q2 (Or.inl ⟨hc45, rfl⟩)
    · refine G.lload B at_48 (v := (q1 &&& (-4294967296 : Int64))) rfl (pc' := 50) rfl ?_
      refine G.lloadN B at_50 (v := q2) rfl (pc' := 51) rfl ?_
      refine G.ldc2 B (hw _ (List.mem_of_getElem? (i := 55) rfl)) at_51 (pc' := 54) rfl ?_
      refine G.land B at_54 (pc' := 55) rfl ?_
      refine G.lor B at_55 (pc' := 56) rfl ?_
      refine G.goto B at_56 (by decide) (pc' := 60) (by decide) ?_
      exact K60 ((q1 &&& (-4294967296 : Int64)) ||| (q2 &&& (4294967295 : Int64))) (Or.inr ⟨hc45, rfl⟩)
  intro b hj60
  clear hj60
  refine G.lstore B at_60 (ls' := #[.val (.int p0), .val (.long q1), .second, .val (.long q2), .second, .val (.long q3), .second, .val (.int p4), .val (.int ks), .val (.long mk), .second, .val (.long (q1 &&& (-4294967296 : Int64))), .second, .val (.long b), .second, .unset, .unset, .unset, .unset, .unset, .unset, .unset, .unset, .unset, .unset]) rfl (pc' := 62) rfl ?_
  refine G.iload B at_62 (v := p4) rfl (pc' := 64) rfl ?_
  refine G.iconst B at_64 (z := (3 : Int32)) rfl (pc' := 65) rfl ?_
  refine G.iand B at_65 (pc' := 66) rfl ?_
  refine G.istore B at_66 (ls' := #[.val (.int p0), .val (.long q1), .second, .val (.long q2), .second, .val (.long q3), .second, .val (.int p4), .val (.int ks), .val (.long mk), .second, .val (.long (q1 &&& (-4294967296 : Int64))), .second, .val (.long b), .second, .val (.int (p4 &&& (3 : Int32))), .unset, .unset, .unset, .unset, .unset, .unset, .unset, .unset, .unset]) rfl (pc' := 68) rfl ?_
  refine G.iload B at_68 (v := (p4 &&& (3 : Int32))) rfl (pc' := 70) rfl ?_
  suffices K108 : ∀ (cc : Int64), (((p4 &&& (3 : Int32)) ≠ 0 ∧ (p4 &&& (3 : Int32)) ≠ (1 : Int32) ∧ (p4 &&& (3 : Int32)) ≠ (2 : Int32) ∧ cc = q3) ∨ ((p4 &&& (3 : Int32)) ≠ 0 ∧ (p4 &&& (3 : Int32)) ≠ (1 : Int32) ∧ (p4 &&& (3 : Int32)) = (2 : Int32) ∧ cc = ((q1 &&& (-4294967296 : Int64)) ||| (q3 &&& (4294967295 : Int64)))) ∨ ((p4 &&& (3 : Int32)) ≠ 0 ∧ (p4 &&& (3 : Int32)) = (1 : Int32) ∧ cc = b) ∨ ((p4 &&& (3 : Int32)) = 0 ∧ cc = q1)) → Gg0 p l e s m below meth c n0 h0 Z p0 q1 q2 q3 p4  0 0 h0 (mkF m 108 #[.val (.int p0), .val (.long q1), .second, .val (.long q2), .second, .val (.long q3), .second, .val (.int p4), .val (.int ks), .val (.long mk), .second, .val (.long (q1 &&& (-4294967296 : Int64))), .second, .val (.long b), .second, .val (.int (p4 &&& (3 : Int32))), .unset, .unset, .unset, .unset, .unset, .unset, .unset, .unset, .unset] [(.long cc)]) by
    refine G.if_ne B at_70 (by decide) (pcT := 77) (by decide) (pc' := 73) rfl (fun (hc70 : (p4 &&& (3 : Int32)) ≠ 0) => ?_) (fun (hc70 : (p4 &&& (3 : Int32)) = 0) => ?_)
    · refine G.iload B at_77 (v := (p4 &&& (3 : Int32))) rfl (pc' := 79) rfl ?_
      refine G.iconst B at_79 (z := (1 : Int32)) rfl (pc' := 80) rfl ?_
      refine G.icmp_ne B at_80 (by decide) (pcT := 88) (by decide) (pc' := 83) rfl (fun (hc80 : (p4 &&& (3 : Int32)) ≠ (1 : Int32)) => ?_) (fun (hc80 : (p4 &&& (3 : Int32)) = (1 : Int32)) => ?_)
      · refine G.iload B at_88 (v := (p4 &&& (3 : Int32))) rfl (pc' := 90) rfl ?_
        refine G.iconst B at_90 (z := (2 : Int32)) rfl (pc' := 91) rfl ?_
        refine G.icmp_ne B at_91 (by decide) (pcT := 106) (by decide) (pc' := 94) rfl (fun (hc91 : (p4 &&& (3 : Int32)) ≠ (2 : Int32)) => ?_) (fun (hc91 : (p4 &&& (3 : Int32)) = (2 : Int32)) => ?_)
        · refine G.lload B at_106 (v := q3) rfl (pc' := 108) rfl ?_
          exact K108 q3 (Or.inl ⟨hc70, hc80, hc91, rfl⟩)
        · refine G.lload B at_94 (v := (q1 &&& (-4294967296 : Int64))) rfl (pc' := 96) rfl ?_
          refine G.lload B at_96 (v := q3) rfl (pc' := 98) rfl ?_
          refine G.ldc2 B (hw _ (List.mem_of_getElem? (i := 55) rfl)) at_98 (pc' := 101) rfl ?_
          refine G.land B at_101 (pc' := 102) rfl ?_
          refine G.lor B at_102 (pc' := 103) rfl ?_
          refine G.goto B at_103 (by decide) (pc' := 108) (by decide) ?_
          exact K108 ((q1 &&& (-4294967296 : Int64)) ||| (q3 &&& (4294967295 : Int64))) (Or.inr (Or.inl ⟨hc70, hc80, hc91, rfl⟩))
      · refine G.lload B at_83 (v := b) rfl (pc' := 85) rfl ?_
        refine G.goto B at_85 (by decide) (pc' := 108) (by decide) ?_
        exact K108 b (Or.inr (Or.inr (Or.inl ⟨hc70, hc80, rfl⟩)))
    · refine G.lloadN B at_73 (v := q1) rfl (pc' := 74) rfl ?_
      refine G.goto B at_74 (by decide) (pc' := 108) (by decide) ?_
      exact K108 q1 (Or.inr (Or.inr (Or.inr ⟨hc70, rfl⟩)))
  intro cc hj108
  clear hj108
  refine G.lstore B at_108 (ls' := #[.val (.int p0), .val (.long q1), .second, .val (.long q2), .second, .val (.long q3), .second, .val (.int p4), .val (.int ks), .val (.long mk), .second, .val (.long (q1 &&& (-4294967296 : Int64))), .second, .val (.long b), .second, .val (.int (p4 &&& (3 : Int32))), .val (.long cc), .second, .unset, .unset, .unset, .unset, .unset, .unset, .unset]) rfl (pc' := 110) rfl ?_
  refine G.newO (q := 3) B (hw _ (List.mem_of_getElem? (i := 1) rfl)) (hw _ (List.mem_of_getElem? (i := 2) rfl)) (hw _ (List.mem_of_getElem? (i := 3) rfl)) at_110 (pc' := 113) rfl (by decide) (by decide) (fun h1 g hs_g hf_g K1 _ E1 D1 => ?_)
  replace hn := Nat.le_trans hn K1.1
  replace hz := Nat.le_trans hz K1.1
  have O_g : O_G Z h1 g (0 : Int32) .null (0 : Int32) := ⟨E1, D1 (Or.inr (hw _ (List.mem_of_getElem? (i := 29) rfl))) (ty := .int) (by decide), D1 (Or.inl (hw _ (List.mem_of_getElem? (i := 36) rfl))) (ty := (.array .long)) (by decide), D1 (Or.inl (hw _ (List.mem_of_getElem? (i := 44) rfl))) (ty := .int) (by decide)⟩
  show Gg0 p l e s m below meth c n0 h0 Z p0 q1 q2 q3 p4  1 3 h1 (mkF m 113 #[.val (.int p0), .val (.long q1), .second, .val (.long q2), .second, .val (.long q3), .second, .val (.int p4), .val (.int ks), .val (.long mk), .second, .val (.long (q1 &&& (-4294967296 : Int64))), .second, .val (.long b), .second, .val (.int (p4 &&& (3 : Int32))), .val (.long cc), .second, .unset, .unset, .unset, .unset, .unset, .unset, .unset] [(.ref g)])
  refine G.dup B at_113 rfl (pc' := 114) rfl ?_
  refine G.iload B at_114 (v := ks) rfl (pc' := 116) rfl ?_
  refine G.i2l B at_116 (pc' := 117) rfl ?_
  refine G.callC (y := (⟨"com/example/lacuna/lacuna/Ghosts", "<init>", "(J)V"⟩ : MethodName)) (a := g) B rfl (hw _ (List.mem_of_getElem? (i := 4) rfl)) (hw _ (List.mem_of_getElem? (i := 5) rfl)) rfl (rm := ({ frames := 2, cells := 0, slots := 0, locals := 28 } : Room)) (ws' := [g]) (rm1 l Z a0 hw g ks.toInt64 0 .null 0 _ n0 hn O_g (own_fr B (Or.inr hf_g)) (by rw [c_i2l]; omega)) (allS (Or.inr hf_g) all0) (hw _ (List.mem_of_getElem? (i := 6) rfl)) (hw _ (List.mem_of_getElem? (i := 3) rfl)) (by decide) rfl (argsL := [(.long (ks.toInt64))]) (rest := [(.ref g)]) rfl (lenOf pd_4 rfl) (by decide) (W := 1) (Nat.le_of_eq rfl) (by decide) (by decide) (by decide) at_117 (pc' := 120) rfl ?_
  rintro _ h2 K2 ⟨rfl, len, O_g, hln⟩
  replace hn := Nat.le_trans hn K2.1
  replace hz := Nat.le_trans hz K2.1
  show Gg0 p l e s m below meth c n0 h0 Z p0 q1 q2 q3 p4  1 3 h2 (mkF m 120 #[.val (.int p0), .val (.long q1), .second, .val (.long q2), .second, .val (.long q3), .second, .val (.int p4), .val (.int ks), .val (.long mk), .second, .val (.long (q1 &&& (-4294967296 : Int64))), .second, .val (.long b), .second, .val (.int (p4 &&& (3 : Int32))), .val (.long cc), .second, .unset, .unset, .unset, .unset, .unset, .unset, .unset] [(.ref g)])
  have hs : (len = 2 ∧ mk = 1) ∨ (len = 4 ∧ mk = 3) ∨ (len = 8 ∧ mk = 7) := by
    unfold Len at hln
    rw [c_i2l] at hln
    have n1 : ks = 1 ↔ ks.toInt = 1 := Int32.toInt_inj.symm
    have n2 : ks = 2 ↔ ks.toInt = 2 := Int32.toInt_inj.symm
    simp only [ne_eq, n1, n2] at hj32
    rcases hj32 with ⟨a, b, rfl⟩ | ⟨a, b, rfl⟩ | ⟨a, rfl⟩ <;> rcases hln with ⟨d, rfl⟩ | ⟨d, rfl⟩ | ⟨d, e, rfl⟩ | ⟨d, e, rfl⟩ <;> first | (exfalso; omega) | simp
  obtain ⟨n, hl, hn1⟩ : ∃ n : Nat, len.toInt = (n : Int) ∧ 1 ≤ n ∧ n ≤ 16 := by
    rcases hs with ⟨rfl, _⟩ | ⟨rfl, _⟩ | ⟨rfl, _⟩
    · exact ⟨2, by decide, by decide⟩
    · exact ⟨4, by decide, by decide⟩
    · exact ⟨8, by decide, by decide⟩
  refine G.astore B at_120 rfl (ls' := #[.val (.int p0), .val (.long q1), .second, .val (.long q2), .second, .val (.long q3), .second, .val (.int p4), .val (.int ks), .val (.long mk), .second, .val (.long (q1 &&& (-4294967296 : Int64))), .second, .val (.long b), .second, .val (.int (p4 &&& (3 : Int32))), .val (.long cc), .second, .val (.ref g), .unset, .unset, .unset, .unset, .unset, .unset]) rfl (pc' := 122) rfl ?_
  refine G.aload B at_122 (v := (.ref g)) rfl rfl (pc' := 124) rfl ?_
  refine G.lload B at_124 (v := q3) rfl (pc' := 126) rfl ?_
  refine G.callV (y := (⟨"com/example/lacuna/lacuna/Ghosts", "forget", "(J)I"⟩ : MethodName)) (a := g) B O_g.1 (hw _ (List.mem_of_getElem? (i := 30) rfl)) (hw _ (List.mem_of_getElem? (i := 31) rfl)) (hw _ (List.mem_of_getElem? (i := 33) rfl)) (hw _ (List.mem_of_getElem? (i := 32) rfl)) (rm := ({ frames := 0, cells := 0, slots := 0, locals := 0 } : Room)) (ws' := []) (rm7n l Z a0 hw g q3 len 0 _ n0 hn O_g) (fun x hx => nomatch hx) (hw _ (List.mem_of_getElem? (i := 34) rfl)) (hw _ (List.mem_of_getElem? (i := 3) rfl)) (by decide) rfl (argsL := [(.long q3)]) (rest := []) rfl (lenOf pd_5 rfl) (by decide) (W := 0) (Nat.le_of_eq rfl) (by decide) (by decide) (by decide) at_126 (pc' := 129) rfl ?_
  rintro _ _ K3 ⟨z0, rfl, rfl, hz0⟩
  show Gg0 p l e s m below meth c n0 h0 Z p0 q1 q2 q3 p4  1 3 h2 (mkF m 129 #[.val (.int p0), .val (.long q1), .second, .val (.long q2), .second, .val (.long q3), .second, .val (.int p4), .val (.int ks), .val (.long mk), .second, .val (.long (q1 &&& (-4294967296 : Int64))), .second, .val (.long b), .second, .val (.int (p4 &&& (3 : Int32))), .val (.long cc), .second, .val (.ref g), .unset, .unset, .unset, .unset, .unset, .unset] [(.int z0)])
  refine G.iconst B at_129 (z := (-1 : Int32)) rfl (pc' := 130) rfl ?_
  have hc130 : z0 = (-1 : Int32) := hz0
  refine G.icmp_ne B at_130 (by decide) (pcT := 137) (by decide) (pc' := 133) rfl (fun q => absurd hc130 q) (fun _ => ?_)
  refine G.iconst B at_133 (z := (1 : Int32)) rfl (pc' := 134) rfl ?_
  refine G.goto B at_134 (by decide) (pc' := 138) (by decide) ?_
  refine G.istore B at_138 (ls' := #[.val (.int p0), .val (.long q1), .second, .val (.long q2), .second, .val (.long q3), .second, .val (.int p4), .val (.int ks), .val (.long mk), .second, .val (.long (q1 &&& (-4294967296 : Int64))), .second, .val (.long b), .second, .val (.int (p4 &&& (3 : Int32))), .val (.long cc), .second, .val (.ref g), .val (.int (1 : Int32)), .unset, .unset, .unset, .unset, .unset]) rfl (pc' := 140) rfl ?_
  refine G.aload B at_140 (v := (.ref g)) rfl rfl (pc' := 142) rfl ?_
  refine G.lloadN B at_142 (v := q1) rfl (pc' := 143) rfl ?_
  have lt_g := O_g.lt
  refine G.callV (y := (⟨"com/example/lacuna/lacuna/Ghosts", "add", "(J)V"⟩ : MethodName)) (a := g) B O_g.1 (hw _ (List.mem_of_getElem? (i := 37) rfl)) (hw _ (List.mem_of_getElem? (i := 38) rfl)) (hw _ (List.mem_of_getElem? (i := 40) rfl)) (hw _ (List.mem_of_getElem? (i := 39) rfl)) (rm := ({ frames := 0, cells := 1, slots := 16, locals := 0 } : Room)) (ws' := [g]) (rm8n l Z a0 hw g q1 len 0 n _ n0 hn O_g hl hn1 (own_fr B (Or.inr hf_g))) (allS (Or.inr hf_g) all0) (hw _ (List.mem_of_getElem? (i := 41) rfl)) (hw _ (List.mem_of_getElem? (i := 3) rfl)) (by decide) rfl (argsL := [(.long q1)]) (rest := []) rfl (lenOf pd_4 rfl) (by decide) (W := 0) (Nat.le_of_eq rfl) (by decide) (by decide) (by decide) at_143 (pc' := 146) rfl ?_
  rintro _ h4 K4 ⟨rfl, sl, hf_sl, O_g, A_sl⟩
  have ne_g_sl : g ≠ sl := Nat.ne_of_lt (Nat.lt_of_lt_of_le lt_g hf_sl)
  replace hf_sl := Nat.le_trans hz hf_sl
  replace hn := Nat.le_trans hn K4.1
  replace hz := Nat.le_trans hz K4.1
  show Gg0 p l e s m below meth c n0 h0 Z p0 q1 q2 q3 p4  2 19 h4 (mkF m 146 #[.val (.int p0), .val (.long q1), .second, .val (.long q2), .second, .val (.long q3), .second, .val (.int p4), .val (.int ks), .val (.long mk), .second, .val (.long (q1 &&& (-4294967296 : Int64))), .second, .val (.long b), .second, .val (.int (p4 &&& (3 : Int32))), .val (.long cc), .second, .val (.ref g), .val (.int (1 : Int32)), .unset, .unset, .unset, .unset, .unset] [])
  refine G.aload B at_146 (v := (.ref g)) rfl rfl (pc' := 148) rfl ?_
  refine G.lload B at_148 (v := b) rfl (pc' := 150) rfl ?_
  refine G.callV (y := (⟨"com/example/lacuna/lacuna/Ghosts", "add", "(J)V"⟩ : MethodName)) (a := g) B O_g.1 (hw _ (List.mem_of_getElem? (i := 37) rfl)) (hw _ (List.mem_of_getElem? (i := 38) rfl)) (hw _ (List.mem_of_getElem? (i := 40) rfl)) (hw _ (List.mem_of_getElem? (i := 39) rfl)) (rm := ({ frames := 0, cells := 0, slots := 0, locals := 0 } : Room)) (ws' := [g, sl]) (rm8s l Z a0 hw g b len ((0 : Int32) + 1) n sl (up (fun _ => 0) (ix len q1) (vv q1 ((0 : Int32) + 1))) _ n0 hn O_g A_sl ne_g_sl hl hn1 (own_fr B (Or.inr hf_g)) (own_fr B (Or.inr hf_sl))) (allS (Or.inr hf_g) (allS (Or.inr hf_sl) all0)) (hw _ (List.mem_of_getElem? (i := 41) rfl)) (hw _ (List.mem_of_getElem? (i := 3) rfl)) (by decide) rfl (argsL := [(.long b)]) (rest := []) rfl (lenOf pd_4 rfl) (by decide) (W := 0) (Nat.le_of_eq rfl) (by decide) (by decide) (by decide) at_150 (pc' := 153) rfl ?_
  rintro _ h5 K5 ⟨rfl, O_g, A_sl⟩
  replace hn := Nat.le_trans hn K5.1
  replace hz := Nat.le_trans hz K5.1
  show Gg0 p l e s m below meth c n0 h0 Z p0 q1 q2 q3 p4  2 19 h5 (mkF m 153 #[.val (.int p0), .val (.long q1), .second, .val (.long q2), .second, .val (.long q3), .second, .val (.int p4), .val (.int ks), .val (.long mk), .second, .val (.long (q1 &&& (-4294967296 : Int64))), .second, .val (.long b), .second, .val (.int (p4 &&& (3 : Int32))), .val (.long cc), .second, .val (.ref g), .val (.int (1 : Int32)), .unset, .unset, .unset, .unset, .unset] [])
  obtain ⟨F, eF⟩ : ∃ F, F = (up (up (fun _ => 0) (ix len q1) (vv q1 ((0 : Int32) + 1))) (ix len b) (vv b (((0 : Int32) + 1) + 1))) := ⟨_, rfl⟩
  rw [← eF] at A_sl
  have I0 : Inv len q1 b F 1 1 := by
    subst eF
    refine ⟨?_, fun r => ?_, fun i r1 r2 => ?_⟩
    · rw [if_neg (by decide)]; exact if_pos rfl
    · rw [if_neg (by decide)]; exact (if_neg r).trans (if_pos rfl)
    · exact (if_neg r2).trans (if_neg r1)
  refine G.iconst B at_153 (z := (1 : Int32)) rfl (pc' := 154) rfl ?_
  refine G.istore B at_154 (ls' := #[.val (.int p0), .val (.long q1), .second, .val (.long q2), .second, .val (.long q3), .second, .val (.int p4), .val (.int ks), .val (.long mk), .second, .val (.long (q1 &&& (-4294967296 : Int64))), .second, .val (.long b), .second, .val (.int (p4 &&& (3 : Int32))), .val (.long cc), .second, .val (.ref g), .val (.int (1 : Int32)), .val (.int (1 : Int32)), .unset, .unset, .unset, .unset]) rfl (pc' := 156) rfl ?_
  refine G.iconst B at_156 (z := (1 : Int32)) rfl (pc' := 157) rfl ?_
  refine G.istore B at_157 (ls' := #[.val (.int p0), .val (.long q1), .second, .val (.long q2), .second, .val (.long q3), .second, .val (.int p4), .val (.int ks), .val (.long mk), .second, .val (.long (q1 &&& (-4294967296 : Int64))), .second, .val (.long b), .second, .val (.int (p4 &&& (3 : Int32))), .val (.long cc), .second, .val (.ref g), .val (.int (1 : Int32)), .val (.int (1 : Int32)), .val (.int (1 : Int32)), .unset, .unset, .unset]) rfl (pc' := 159) rfl ?_
  refine G.lload B at_159 (v := cc) rfl (pc' := 161) rfl ?_
  refine G.lloadN B at_161 (v := q1) rfl (pc' := 162) rfl ?_
  refine G.lload B at_162 (v := b) rfl (pc' := 164) rfl ?_
  refine G.lload B at_164 (v := mk) rfl (pc' := 166) rfl ?_
  refine G.iload B at_166 (v := (1 : Int32)) rfl (pc' := 168) rfl ?_
  refine G.iload B at_168 (v := (1 : Int32)) rfl (pc' := 170) rfl ?_
  refine G.callS (y := (⟨"com/example/lacuna/lacuna/GhostsForgetPinLaw", "answer", "(JJJJZZ)I"⟩ : MethodName)) B (hw _ (List.mem_of_getElem? (i := 47) rfl)) (hw _ (List.mem_of_getElem? (i := 48) rfl)) (rm := ({ frames := 1, cells := 0, slots := 0, locals := 15 } : Room)) (ws' := []) (rm9 l Z a0 hw cc q1 b mk (1 : Int32) (1 : Int32) _ n0 hn) (fun x hx => nomatch hx) (hw _ (List.mem_of_getElem? (i := 50) rfl)) (hw _ (List.mem_of_getElem? (i := 49) rfl)) (by decide) rfl (argsL := [(.long cc), (.long q1), (.long b), (.long mk), (.int (1 : Int32)), (.int (1 : Int32))]) (rest := []) rfl (lenOf pd_6 rfl) (by decide) (W := 0) (Nat.le_of_eq rfl) (by decide) (by decide) (by decide) at_170 (pc' := 173) rfl ?_
  rintro _ _ K6 ⟨e1, rfl, rfl, he1⟩
  show Gg0 p l e s m below meth c n0 h0 Z p0 q1 q2 q3 p4  2 19 h5 (mkF m 173 #[.val (.int p0), .val (.long q1), .second, .val (.long q2), .second, .val (.long q3), .second, .val (.int p4), .val (.int ks), .val (.long mk), .second, .val (.long (q1 &&& (-4294967296 : Int64))), .second, .val (.long b), .second, .val (.int (p4 &&& (3 : Int32))), .val (.long cc), .second, .val (.ref g), .val (.int (1 : Int32)), .val (.int (1 : Int32)), .val (.int (1 : Int32)), .unset, .unset, .unset] [(.int e1)])
  refine G.istore B at_173 (ls' := #[.val (.int p0), .val (.long q1), .second, .val (.long q2), .second, .val (.long q3), .second, .val (.int p4), .val (.int ks), .val (.long mk), .second, .val (.long (q1 &&& (-4294967296 : Int64))), .second, .val (.long b), .second, .val (.int (p4 &&& (3 : Int32))), .val (.long cc), .second, .val (.ref g), .val (.int (1 : Int32)), .val (.int (1 : Int32)), .val (.int (1 : Int32)), .val (.int e1), .unset, .unset]) rfl (pc' := 175) rfl ?_
  refine G.iload B at_175 (v := (1 : Int32)) rfl (pc' := 177) rfl ?_
  have hc177 : (1 : Int32) ≠ 0 := by decide
  refine G.if_eq B at_177 (by decide) (pcT := 196) (by decide) (pc' := 180) rfl (fun q => absurd q hc177) (fun _ => ?_)
  refine G.aload B at_180 (v := (.ref g)) rfl rfl (pc' := 182) rfl ?_
  refine G.lload B at_182 (v := cc) rfl (pc' := 184) rfl ?_
  refine G.callV (y := (⟨"com/example/lacuna/lacuna/Ghosts", "forget", "(J)I"⟩ : MethodName)) (a := g) B O_g.1 (hw _ (List.mem_of_getElem? (i := 30) rfl)) (hw _ (List.mem_of_getElem? (i := 31) rfl)) (hw _ (List.mem_of_getElem? (i := 33) rfl)) (hw _ (List.mem_of_getElem? (i := 32) rfl)) (rm := ({ frames := 0, cells := 0, slots := 0, locals := 0 } : Room)) (ws' := [sl]) (rm7s l Z a0 hw g cc len (((0 : Int32) + 1) + 1) n sl F _ n0 hn O_g A_sl ne_g_sl hl hn1 (own_fr B (Or.inr hf_sl))) (allS (Or.inr hf_sl) all0) (hw _ (List.mem_of_getElem? (i := 34) rfl)) (hw _ (List.mem_of_getElem? (i := 3) rfl)) (by decide) rfl (argsL := [(.long cc)]) (rest := []) rfl (lenOf pd_5 rfl) (by decide) (W := 0) (Nat.le_of_eq rfl) (by decide) (by decide) (by decide) at_184 (pc' := 187) rfl ?_
  rintro _ h7 K7 ⟨z1, rfl, f1, -, A_sl, g1⟩
  replace hn := Nat.le_trans hn K7.1
  replace hz := Nat.le_trans hz K7.1
  replace O_g := O_g.keep K7 (ninS ne_g_sl nin0)
  show Gg0 p l e s m below meth c n0 h0 Z p0 q1 q2 q3 p4  2 19 h7 (mkF m 187 #[.val (.int p0), .val (.long q1), .second, .val (.long q2), .second, .val (.long q3), .second, .val (.int p4), .val (.int ks), .val (.long mk), .second, .val (.long (q1 &&& (-4294967296 : Int64))), .second, .val (.long b), .second, .val (.int (p4 &&& (3 : Int32))), .val (.long cc), .second, .val (.ref g), .val (.int (1 : Int32)), .val (.int (1 : Int32)), .val (.int (1 : Int32)), .val (.int e1), .unset, .unset] [(.int z1)])
  refine G.iload B at_187 (v := e1) rfl (pc' := 189) rfl ?_
  obtain ⟨s1, t1⟩ := own_step (pa' := if e1 = 1 then 0 else 1) (pb' := if e1 = 0 then 0 else 1) hs hl hn1 I0 g1 he1
  have hc189 : z1 = e1 := s1
  refine G.icmp_ne B at_189 (by decide) (pcT := 196) (by decide) (pc' := 192) rfl (fun q => absurd hc189 q) (fun _ => ?_)
  refine G.iconst B at_192 (z := (1 : Int32)) rfl (pc' := 193) rfl ?_
  refine G.goto B at_193 (by decide) (pc' := 197) (by decide) ?_
  refine G.istore B at_197 (ls' := #[.val (.int p0), .val (.long q1), .second, .val (.long q2), .second, .val (.long q3), .second, .val (.int p4), .val (.int ks), .val (.long mk), .second, .val (.long (q1 &&& (-4294967296 : Int64))), .second, .val (.long b), .second, .val (.int (p4 &&& (3 : Int32))), .val (.long cc), .second, .val (.ref g), .val (.int (1 : Int32)), .val (.int (1 : Int32)), .val (.int (1 : Int32)), .val (.int e1), .unset, .unset]) rfl (pc' := 199) rfl ?_
  refine G.iload B at_199 (v := e1) rfl (pc' := 201) rfl ?_
  suffices K207 : ∀ (pb1 : Int32), ((e1 ≠ 0 ∧ pb1 = (1 : Int32)) ∨ (e1 = 0 ∧ pb1 = (0 : Int32))) → Gg0 p l e s m below meth c n0 h0 Z p0 q1 q2 q3 p4  2 19 h7 (mkF m 207 #[.val (.int p0), .val (.long q1), .second, .val (.long q2), .second, .val (.long q3), .second, .val (.int p4), .val (.int ks), .val (.long mk), .second, .val (.long (q1 &&& (-4294967296 : Int64))), .second, .val (.long b), .second, .val (.int (p4 &&& (3 : Int32))), .val (.long cc), .second, .val (.ref g), .val (.int (1 : Int32)), .val (.int (1 : Int32)), .val (.int pb1), .val (.int e1), .unset, .unset] []) by
    refine G.if_ne B at_201 (by decide) (pcT := 207) (by decide) (pc' := 204) rfl (fun (hc201 : e1 ≠ 0) => ?_) (fun (hc201 : e1 = 0) => ?_)
    · exact K207 (1 : Int32) (Or.inl ⟨hc201, rfl⟩)
    · refine G.iconst B at_204 (z := (0 : Int32)) rfl (pc' := 205) rfl ?_
      refine G.istore B at_205 (ls' := #[.val (.int p0), .val (.long q1), .second, .val (.long q2), .second, .val (.long q3), .second, .val (.int p4), .val (.int ks), .val (.long mk), .second, .val (.long (q1 &&& (-4294967296 : Int64))), .second, .val (.long b), .second, .val (.int (p4 &&& (3 : Int32))), .val (.long cc), .second, .val (.ref g), .val (.int (1 : Int32)), .val (.int (1 : Int32)), .val (.int (0 : Int32)), .val (.int e1), .unset, .unset]) rfl (pc' := 207) rfl ?_
      exact K207 (0 : Int32) (Or.inr ⟨hc201, rfl⟩)
  intro pb1 hj207
  refine G.iload B at_207 (v := e1) rfl (pc' := 209) rfl ?_
  refine G.iconst B at_209 (z := (1 : Int32)) rfl (pc' := 210) rfl ?_
  suffices K216 : ∀ (pa1 : Int32), ((e1 ≠ (1 : Int32) ∧ pa1 = (1 : Int32)) ∨ (e1 = (1 : Int32) ∧ pa1 = (0 : Int32))) → Gg0 p l e s m below meth c n0 h0 Z p0 q1 q2 q3 p4  2 19 h7 (mkF m 216 #[.val (.int p0), .val (.long q1), .second, .val (.long q2), .second, .val (.long q3), .second, .val (.int p4), .val (.int ks), .val (.long mk), .second, .val (.long (q1 &&& (-4294967296 : Int64))), .second, .val (.long b), .second, .val (.int (p4 &&& (3 : Int32))), .val (.long cc), .second, .val (.ref g), .val (.int (1 : Int32)), .val (.int pa1), .val (.int pb1), .val (.int e1), .unset, .unset] []) by
    refine G.icmp_ne B at_210 (by decide) (pcT := 216) (by decide) (pc' := 213) rfl (fun (hc210 : e1 ≠ (1 : Int32)) => ?_) (fun (hc210 : e1 = (1 : Int32)) => ?_)
    · exact K216 (1 : Int32) (Or.inl ⟨hc210, rfl⟩)
    · refine G.iconst B at_213 (z := (0 : Int32)) rfl (pc' := 214) rfl ?_
      refine G.istore B at_214 (ls' := #[.val (.int p0), .val (.long q1), .second, .val (.long q2), .second, .val (.long q3), .second, .val (.int p4), .val (.int ks), .val (.long mk), .second, .val (.long (q1 &&& (-4294967296 : Int64))), .second, .val (.long b), .second, .val (.int (p4 &&& (3 : Int32))), .val (.long cc), .second, .val (.ref g), .val (.int (1 : Int32)), .val (.int (0 : Int32)), .val (.int pb1), .val (.int e1), .unset, .unset]) rfl (pc' := 216) rfl ?_
      exact K216 (0 : Int32) (Or.inr ⟨hc210, rfl⟩)
  intro pa1 hj216
  refine G.iload B at_216 (v := (1 : Int32)) rfl (pc' := 218) rfl ?_
  clear t1
  obtain ⟨-, t1⟩ := own_step (pa' := pa1) (pb' := pb1) hs hl hn1 I0 g1 he1
  have I1 := t1 hj207 hj216
  have hc218 : (1 : Int32) ≠ 0 := by decide
  refine G.if_eq B at_218 (by decide) (pcT := 236) (by decide) (pc' := 221) rfl (fun q => absurd q hc218) (fun _ => ?_)
  refine G.aload B at_221 (v := (.ref g)) rfl rfl (pc' := 223) rfl ?_
  refine G.lload B at_223 (v := cc) rfl (pc' := 225) rfl ?_
  refine G.callV (y := (⟨"com/example/lacuna/lacuna/Ghosts", "forget", "(J)I"⟩ : MethodName)) (a := g) B O_g.1 (hw _ (List.mem_of_getElem? (i := 30) rfl)) (hw _ (List.mem_of_getElem? (i := 31) rfl)) (hw _ (List.mem_of_getElem? (i := 33) rfl)) (hw _ (List.mem_of_getElem? (i := 32) rfl)) (rm := ({ frames := 0, cells := 0, slots := 0, locals := 0 } : Room)) (ws' := [sl]) (rm7s l Z a0 hw g cc len (((0 : Int32) + 1) + 1) n sl f1 _ n0 hn O_g A_sl ne_g_sl hl hn1 (own_fr B (Or.inr hf_sl))) (allS (Or.inr hf_sl) all0) (hw _ (List.mem_of_getElem? (i := 34) rfl)) (hw _ (List.mem_of_getElem? (i := 3) rfl)) (by decide) rfl (argsL := [(.long cc)]) (rest := []) rfl (lenOf pd_5 rfl) (by decide) (W := 0) (Nat.le_of_eq rfl) (by decide) (by decide) (by decide) at_225 (pc' := 228) rfl ?_
  rintro _ h8 K8 ⟨z2, rfl, f2, -, A_sl, g2⟩
  replace hn := Nat.le_trans hn K8.1
  replace hz := Nat.le_trans hz K8.1
  replace O_g := O_g.keep K8 (ninS ne_g_sl nin0)
  show Gg0 p l e s m below meth c n0 h0 Z p0 q1 q2 q3 p4  2 19 h8 (mkF m 228 #[.val (.int p0), .val (.long q1), .second, .val (.long q2), .second, .val (.long q3), .second, .val (.int p4), .val (.int ks), .val (.long mk), .second, .val (.long (q1 &&& (-4294967296 : Int64))), .second, .val (.long b), .second, .val (.int (p4 &&& (3 : Int32))), .val (.long cc), .second, .val (.ref g), .val (.int (1 : Int32)), .val (.int pa1), .val (.int pb1), .val (.int e1), .unset, .unset] [(.int z2)])
  refine G.iconst B at_228 (z := (-1 : Int32)) rfl (pc' := 229) rfl ?_
  obtain ⟨s2, e2⟩ := own_twice g1 g2
  rw [e2] at A_sl
  have hc229 : z2 = (-1 : Int32) := s2
  refine G.icmp_ne B at_229 (by decide) (pcT := 236) (by decide) (pc' := 232) rfl (fun q => absurd hc229 q) (fun _ => ?_)
  refine G.iconst B at_232 (z := (1 : Int32)) rfl (pc' := 233) rfl ?_
  refine G.goto B at_233 (by decide) (pc' := 237) (by decide) ?_
  refine G.istore B at_237 (ls' := #[.val (.int p0), .val (.long q1), .second, .val (.long q2), .second, .val (.long q3), .second, .val (.int p4), .val (.int ks), .val (.long mk), .second, .val (.long (q1 &&& (-4294967296 : Int64))), .second, .val (.long b), .second, .val (.int (p4 &&& (3 : Int32))), .val (.long cc), .second, .val (.ref g), .val (.int (1 : Int32)), .val (.int pa1), .val (.int pb1), .val (.int e1), .unset, .unset]) rfl (pc' := 239) rfl ?_
  refine G.lloadN B at_239 (v := q1) rfl (pc' := 240) rfl ?_
  refine G.lloadN B at_240 (v := q1) rfl (pc' := 241) rfl ?_
  refine G.lload B at_241 (v := b) rfl (pc' := 243) rfl ?_
  refine G.lload B at_243 (v := mk) rfl (pc' := 245) rfl ?_
  refine G.iload B at_245 (v := pa1) rfl (pc' := 247) rfl ?_
  refine G.iload B at_247 (v := pb1) rfl (pc' := 249) rfl ?_
  refine G.callS (y := (⟨"com/example/lacuna/lacuna/GhostsForgetPinLaw", "answer", "(JJJJZZ)I"⟩ : MethodName)) B (hw _ (List.mem_of_getElem? (i := 47) rfl)) (hw _ (List.mem_of_getElem? (i := 48) rfl)) (rm := ({ frames := 1, cells := 0, slots := 0, locals := 15 } : Room)) (ws' := []) (rm9 l Z a0 hw q1 q1 b mk pa1 pb1 _ n0 hn) (fun x hx => nomatch hx) (hw _ (List.mem_of_getElem? (i := 50) rfl)) (hw _ (List.mem_of_getElem? (i := 49) rfl)) (by decide) rfl (argsL := [(.long q1), (.long q1), (.long b), (.long mk), (.int pa1), (.int pb1)]) (rest := []) rfl (lenOf pd_6 rfl) (by decide) (W := 0) (Nat.le_of_eq rfl) (by decide) (by decide) (by decide) at_249 (pc' := 252) rfl ?_
  rintro _ _ K9 ⟨e3, rfl, rfl, he3⟩
  show Gg0 p l e s m below meth c n0 h0 Z p0 q1 q2 q3 p4  2 19 h8 (mkF m 252 #[.val (.int p0), .val (.long q1), .second, .val (.long q2), .second, .val (.long q3), .second, .val (.int p4), .val (.int ks), .val (.long mk), .second, .val (.long (q1 &&& (-4294967296 : Int64))), .second, .val (.long b), .second, .val (.int (p4 &&& (3 : Int32))), .val (.long cc), .second, .val (.ref g), .val (.int (1 : Int32)), .val (.int pa1), .val (.int pb1), .val (.int e1), .unset, .unset] [(.int e3)])
  refine G.istore B at_252 (ls' := #[.val (.int p0), .val (.long q1), .second, .val (.long q2), .second, .val (.long q3), .second, .val (.int p4), .val (.int ks), .val (.long mk), .second, .val (.long (q1 &&& (-4294967296 : Int64))), .second, .val (.long b), .second, .val (.int (p4 &&& (3 : Int32))), .val (.long cc), .second, .val (.ref g), .val (.int (1 : Int32)), .val (.int pa1), .val (.int pb1), .val (.int e1), .val (.int e3), .unset]) rfl (pc' := 254) rfl ?_
  refine G.iload B at_254 (v := (1 : Int32)) rfl (pc' := 256) rfl ?_
  have hc256 : (1 : Int32) ≠ 0 := by decide
  refine G.if_eq B at_256 (by decide) (pcT := 274) (by decide) (pc' := 259) rfl (fun q => absurd q hc256) (fun _ => ?_)
  refine G.aload B at_259 (v := (.ref g)) rfl rfl (pc' := 261) rfl ?_
  refine G.lloadN B at_261 (v := q1) rfl (pc' := 262) rfl ?_
  refine G.callV (y := (⟨"com/example/lacuna/lacuna/Ghosts", "forget", "(J)I"⟩ : MethodName)) (a := g) B O_g.1 (hw _ (List.mem_of_getElem? (i := 30) rfl)) (hw _ (List.mem_of_getElem? (i := 31) rfl)) (hw _ (List.mem_of_getElem? (i := 33) rfl)) (hw _ (List.mem_of_getElem? (i := 32) rfl)) (rm := ({ frames := 0, cells := 0, slots := 0, locals := 0 } : Room)) (ws' := [sl]) (rm7s l Z a0 hw g q1 len (((0 : Int32) + 1) + 1) n sl f1 _ n0 hn O_g A_sl ne_g_sl hl hn1 (own_fr B (Or.inr hf_sl))) (allS (Or.inr hf_sl) all0) (hw _ (List.mem_of_getElem? (i := 34) rfl)) (hw _ (List.mem_of_getElem? (i := 3) rfl)) (by decide) rfl (argsL := [(.long q1)]) (rest := []) rfl (lenOf pd_5 rfl) (by decide) (W := 0) (Nat.le_of_eq rfl) (by decide) (by decide) (by decide) at_262 (pc' := 265) rfl ?_
  rintro _ h10 K10 ⟨z3, rfl, f3, -, A_sl, g3⟩
  replace hn := Nat.le_trans hn K10.1
  replace hz := Nat.le_trans hz K10.1
  replace O_g := O_g.keep K10 (ninS ne_g_sl nin0)
  show Gg0 p l e s m below meth c n0 h0 Z p0 q1 q2 q3 p4  2 19 h10 (mkF m 265 #[.val (.int p0), .val (.long q1), .second, .val (.long q2), .second, .val (.long q3), .second, .val (.int p4), .val (.int ks), .val (.long mk), .second, .val (.long (q1 &&& (-4294967296 : Int64))), .second, .val (.long b), .second, .val (.int (p4 &&& (3 : Int32))), .val (.long cc), .second, .val (.ref g), .val (.int (1 : Int32)), .val (.int pa1), .val (.int pb1), .val (.int e1), .val (.int e3), .unset] [(.int z3)])
  refine G.iload B at_265 (v := e3) rfl (pc' := 267) rfl ?_
  obtain ⟨s3, -⟩ := own_step (pa' := 0) (pb' := 0) hs hl hn1 I1 g3 he3
  have hc267 : z3 = e3 := s3
  refine G.icmp_ne B at_267 (by decide) (pcT := 274) (by decide) (pc' := 270) rfl (fun q => absurd hc267 q) (fun _ => ?_)
  refine G.iconst B at_270 (z := (1 : Int32)) rfl (pc' := 271) rfl ?_
  refine G.goto B at_271 (by decide) (pc' := 275) (by decide) ?_
  refine G.istore B at_275 (ls' := #[.val (.int p0), .val (.long q1), .second, .val (.long q2), .second, .val (.long q3), .second, .val (.int p4), .val (.int ks), .val (.long mk), .second, .val (.long (q1 &&& (-4294967296 : Int64))), .second, .val (.long b), .second, .val (.int (p4 &&& (3 : Int32))), .val (.long cc), .second, .val (.ref g), .val (.int (1 : Int32)), .val (.int pa1), .val (.int pb1), .val (.int e1), .val (.int e3), .unset]) rfl (pc' := 277) rfl ?_
  refine G.iload B at_277 (v := e3) rfl (pc' := 279) rfl ?_
  suffices K285 : ∀ (pb2 : Int32), ((e3 ≠ 0 ∧ pb2 = pb1) ∨ (e3 = 0 ∧ pb2 = (0 : Int32))) → Gg0 p l e s m below meth c n0 h0 Z p0 q1 q2 q3 p4  2 19 h10 (mkF m 285 #[.val (.int p0), .val (.long q1), .second, .val (.long q2), .second, .val (.long q3), .second, .val (.int p4), .val (.int ks), .val (.long mk), .second, .val (.long (q1 &&& (-4294967296 : Int64))), .second, .val (.long b), .second, .val (.int (p4 &&& (3 : Int32))), .val (.long cc), .second, .val (.ref g), .val (.int (1 : Int32)), .val (.int pa1), .val (.int pb2), .val (.int e1), .val (.int e3), .unset] []) by
    refine G.if_ne B at_279 (by decide) (pcT := 285) (by decide) (pc' := 282) rfl (fun (hc279 : e3 ≠ 0) => ?_) (fun (hc279 : e3 = 0) => ?_)
    · exact K285 pb1 (Or.inl ⟨hc279, rfl⟩)
    · refine G.iconst B at_282 (z := (0 : Int32)) rfl (pc' := 283) rfl ?_
      refine G.istore B at_283 (ls' := #[.val (.int p0), .val (.long q1), .second, .val (.long q2), .second, .val (.long q3), .second, .val (.int p4), .val (.int ks), .val (.long mk), .second, .val (.long (q1 &&& (-4294967296 : Int64))), .second, .val (.long b), .second, .val (.int (p4 &&& (3 : Int32))), .val (.long cc), .second, .val (.ref g), .val (.int (1 : Int32)), .val (.int pa1), .val (.int (0 : Int32)), .val (.int e1), .val (.int e3), .unset]) rfl (pc' := 285) rfl ?_
      exact K285 (0 : Int32) (Or.inr ⟨hc279, rfl⟩)
  intro pb2 hj285
  refine G.iload B at_285 (v := e3) rfl (pc' := 287) rfl ?_
  refine G.iconst B at_287 (z := (1 : Int32)) rfl (pc' := 288) rfl ?_
  suffices K294 : ∀ (pa2 : Int32), ((e3 ≠ (1 : Int32) ∧ pa2 = pa1) ∨ (e3 = (1 : Int32) ∧ pa2 = (0 : Int32))) → Gg0 p l e s m below meth c n0 h0 Z p0 q1 q2 q3 p4  2 19 h10 (mkF m 294 #[.val (.int p0), .val (.long q1), .second, .val (.long q2), .second, .val (.long q3), .second, .val (.int p4), .val (.int ks), .val (.long mk), .second, .val (.long (q1 &&& (-4294967296 : Int64))), .second, .val (.long b), .second, .val (.int (p4 &&& (3 : Int32))), .val (.long cc), .second, .val (.ref g), .val (.int (1 : Int32)), .val (.int pa2), .val (.int pb2), .val (.int e1), .val (.int e3), .unset] []) by
    refine G.icmp_ne B at_288 (by decide) (pcT := 294) (by decide) (pc' := 291) rfl (fun (hc288 : e3 ≠ (1 : Int32)) => ?_) (fun (hc288 : e3 = (1 : Int32)) => ?_)
    · exact K294 pa1 (Or.inl ⟨hc288, rfl⟩)
    · refine G.iconst B at_291 (z := (0 : Int32)) rfl (pc' := 292) rfl ?_
      refine G.istore B at_292 (ls' := #[.val (.int p0), .val (.long q1), .second, .val (.long q2), .second, .val (.long q3), .second, .val (.int p4), .val (.int ks), .val (.long mk), .second, .val (.long (q1 &&& (-4294967296 : Int64))), .second, .val (.long b), .second, .val (.int (p4 &&& (3 : Int32))), .val (.long cc), .second, .val (.ref g), .val (.int (1 : Int32)), .val (.int (0 : Int32)), .val (.int pb2), .val (.int e1), .val (.int e3), .unset]) rfl (pc' := 294) rfl ?_
      exact K294 (0 : Int32) (Or.inr ⟨hc288, rfl⟩)
  intro pa2 hj294
  refine G.lload B at_294 (v := b) rfl (pc' := 296) rfl ?_
  refine G.lloadN B at_296 (v := q1) rfl (pc' := 297) rfl ?_
  refine G.lload B at_297 (v := b) rfl (pc' := 299) rfl ?_
  refine G.lload B at_299 (v := mk) rfl (pc' := 301) rfl ?_
  refine G.iload B at_301 (v := pa2) rfl (pc' := 303) rfl ?_
  refine G.iload B at_303 (v := pb2) rfl (pc' := 305) rfl ?_
  obtain ⟨-, t3⟩ := own_step (pa' := pa2) (pb' := pb2) hs hl hn1 I1 g3 he3
  have I2 := t3 hj285 hj294
  refine G.callS (y := (⟨"com/example/lacuna/lacuna/GhostsForgetPinLaw", "answer", "(JJJJZZ)I"⟩ : MethodName)) B (hw _ (List.mem_of_getElem? (i := 47) rfl)) (hw _ (List.mem_of_getElem? (i := 48) rfl)) (rm := ({ frames := 1, cells := 0, slots := 0, locals := 15 } : Room)) (ws' := []) (rm9 l Z a0 hw b q1 b mk pa2 pb2 _ n0 hn) (fun x hx => nomatch hx) (hw _ (List.mem_of_getElem? (i := 50) rfl)) (hw _ (List.mem_of_getElem? (i := 49) rfl)) (by decide) rfl (argsL := [(.long b), (.long q1), (.long b), (.long mk), (.int pa2), (.int pb2)]) (rest := []) rfl (lenOf pd_6 rfl) (by decide) (W := 0) (Nat.le_of_eq rfl) (by decide) (by decide) (by decide) at_305 (pc' := 308) rfl ?_
  rintro _ _ K11 ⟨e4, rfl, rfl, he4⟩
  show Gg0 p l e s m below meth c n0 h0 Z p0 q1 q2 q3 p4  2 19 h10 (mkF m 308 #[.val (.int p0), .val (.long q1), .second, .val (.long q2), .second, .val (.long q3), .second, .val (.int p4), .val (.int ks), .val (.long mk), .second, .val (.long (q1 &&& (-4294967296 : Int64))), .second, .val (.long b), .second, .val (.int (p4 &&& (3 : Int32))), .val (.long cc), .second, .val (.ref g), .val (.int (1 : Int32)), .val (.int pa2), .val (.int pb2), .val (.int e1), .val (.int e3), .unset] [(.int e4)])
  refine G.istore B at_308 (ls' := #[.val (.int p0), .val (.long q1), .second, .val (.long q2), .second, .val (.long q3), .second, .val (.int p4), .val (.int ks), .val (.long mk), .second, .val (.long (q1 &&& (-4294967296 : Int64))), .second, .val (.long b), .second, .val (.int (p4 &&& (3 : Int32))), .val (.long cc), .second, .val (.ref g), .val (.int (1 : Int32)), .val (.int pa2), .val (.int pb2), .val (.int e1), .val (.int e3), .val (.int e4)]) rfl (pc' := 310) rfl ?_
  refine G.iload B at_310 (v := (1 : Int32)) rfl (pc' := 312) rfl ?_
  have hc312 : (1 : Int32) ≠ 0 := by decide
  refine G.if_eq B at_312 (by decide) (pcT := 331) (by decide) (pc' := 315) rfl (fun q => absurd q hc312) (fun _ => ?_)
  refine G.aload B at_315 (v := (.ref g)) rfl rfl (pc' := 317) rfl ?_
  refine G.lload B at_317 (v := b) rfl (pc' := 319) rfl ?_
  refine G.callV (y := (⟨"com/example/lacuna/lacuna/Ghosts", "forget", "(J)I"⟩ : MethodName)) (a := g) B O_g.1 (hw _ (List.mem_of_getElem? (i := 30) rfl)) (hw _ (List.mem_of_getElem? (i := 31) rfl)) (hw _ (List.mem_of_getElem? (i := 33) rfl)) (hw _ (List.mem_of_getElem? (i := 32) rfl)) (rm := ({ frames := 0, cells := 0, slots := 0, locals := 0 } : Room)) (ws' := [sl]) (rm7s l Z a0 hw g b len (((0 : Int32) + 1) + 1) n sl f3 _ n0 hn O_g A_sl ne_g_sl hl hn1 (own_fr B (Or.inr hf_sl))) (allS (Or.inr hf_sl) all0) (hw _ (List.mem_of_getElem? (i := 34) rfl)) (hw _ (List.mem_of_getElem? (i := 3) rfl)) (by decide) rfl (argsL := [(.long b)]) (rest := []) rfl (lenOf pd_5 rfl) (by decide) (W := 0) (Nat.le_of_eq rfl) (by decide) (by decide) (by decide) at_319 (pc' := 322) rfl ?_
  rintro _ h12 K12 ⟨z4, rfl, f4, -, A_sl, g4⟩
  replace hn := Nat.le_trans hn K12.1
  replace hz := Nat.le_trans hz K12.1
  replace O_g := O_g.keep K12 (ninS ne_g_sl nin0)
  show Gg0 p l e s m below meth c n0 h0 Z p0 q1 q2 q3 p4  2 19 h12 (mkF m 322 #[.val (.int p0), .val (.long q1), .second, .val (.long q2), .second, .val (.long q3), .second, .val (.int p4), .val (.int ks), .val (.long mk), .second, .val (.long (q1 &&& (-4294967296 : Int64))), .second, .val (.long b), .second, .val (.int (p4 &&& (3 : Int32))), .val (.long cc), .second, .val (.ref g), .val (.int (1 : Int32)), .val (.int pa2), .val (.int pb2), .val (.int e1), .val (.int e3), .val (.int e4)] [(.int z4)])
  refine G.iload B at_322 (v := e4) rfl (pc' := 324) rfl ?_
  obtain ⟨s4, -⟩ := own_step (pa' := 0) (pb' := 0) hs hl hn1 I2 g4 he4
  have hc324 : z4 = e4 := s4
  refine G.icmp_ne B at_324 (by decide) (pcT := 331) (by decide) (pc' := 327) rfl (fun q => absurd hc324 q) (fun _ => ?_)
  refine G.iconst B at_327 (z := (1 : Int32)) rfl (pc' := 328) rfl ?_
  refine G.goto B at_328 (by decide) (pc' := 332) (by decide) ?_
  refine G.istore B at_332 (ls' := #[.val (.int p0), .val (.long q1), .second, .val (.long q2), .second, .val (.long q3), .second, .val (.int p4), .val (.int ks), .val (.long mk), .second, .val (.long (q1 &&& (-4294967296 : Int64))), .second, .val (.long b), .second, .val (.int (p4 &&& (3 : Int32))), .val (.long cc), .second, .val (.ref g), .val (.int (1 : Int32)), .val (.int pa2), .val (.int pb2), .val (.int e1), .val (.int e3), .val (.int e4)]) rfl (pc' := 334) rfl ?_
  refine G.iload B at_334 (v := (1 : Int32)) rfl (pc' := 336) rfl ?_
  exact G.retZ B at_336 (by decide) (by decide) (Or.inr rfl) rfl
set_option maxRecDepth 65536 in
set_option maxHeartbeats 40000000 in
theorem comes_1 {Post : Tables → Env → Array Value → State → Outcome → State → Prop} (hpost : ∀ tb e args s v u, (limb_1_1.after args s (.returned v) u = true ∧ limb_1_2.after args s (.returned v) u = true ∧ True) → FrameEnd s (.returned v) u (Jvm.fieldLocs frame_1_writes args s ++ Jvm.arrayLocs frame_1_arrays args s ++ Jvm.staticLocs frame_1_statics s) 16 128 → Post tb e args s (.returned v) u) :
    ArmFor flags0 classFile x code maxLocals ret World_1 tables_1 room_1 Calls_1 rest_1 Pre_1 Post := by
  intro l hfl _ _ p e ha hc hk s m args below hf hA hF happ hP
  obtain ⟨hcalls, hrest, hpre⟩ := hP
  obtain ⟨-, -, -, hnamed, -, -, -, hat⟩ := (Spec.applies_iff hf).mp happ
  obtain ⟨hg, hn⟩ := and_e (Cond.before_iff.mp (show (Jvm.Cond.and given_1 narrow_1).before args s = true from hpre))
  obtain ⟨hq0, hg0⟩ := and_e hg
  obtain ⟨hq1, hg1⟩ := and_e hg0
  obtain ⟨hq2, hg2⟩ := and_e hg1
  obtain ⟨hq3, hg3⟩ := and_e hg2
  obtain ⟨hq4, hg4⟩ := and_e hg3
  obtain ⟨w0, w1, w2, w3, w4, rfl⟩ : ∃ w0 w1 w2 w3 w4 : Value, args = #[w0, w1, w2, w3, w4] := by
    have hs : args.size = 5 := by simpa [Cond.value, given_1] using hq0
    obtain ⟨L⟩ := args
    match L, hs with
    | [w0, w1, w2, w3, w4], _ => exact ⟨w0, w1, w2, w3, w4, rfl⟩
  have hw := fun d (hd : d ∈ tables_1) => atoms_spec (ws := Jvm.Cond.code x code maxLocals ret :: tables_1) hat d (List.mem_cons_of_mem _ hd)
  obtain ⟨i0, e0⟩ := is_v hq1
  obtain rfl : w0 = (.int i0) := Option.some.inj e0
  obtain ⟨i1, e1⟩ := isL_v hq2
  obtain rfl : w1 = (.long i1) := Option.some.inj e1
  obtain ⟨i2, e2⟩ := isL_v hq3
  obtain rfl : w2 = (.long i2) := Option.some.inj e2
  obtain ⟨i3, e3⟩ := isL_v hq4
  obtain rfl : w3 = (.long i3) := Option.some.inj e3
  obtain ⟨i4, e4⟩ := is_v hg4
  obtain rfl : w4 = (.int i4) := Option.some.inj e4
  obtain ⟨n, o, h1, h2, h3, _, L, rfl, ⟨N, -, _, rfl, rfl⟩, hq⟩ := rm0 l s _ hw i0 i1 i2 i3 i4 s.heap s.heap.size (Nat.le_refl _) p e ha hc hk s m _ below hf ((Spec.applies_iff_loose hf).mp happ).1 ⟨rfl, State.Warmed39.refl s, rfl⟩ trivial
  refine ⟨n, _, h1, h2, h3, hpost _ _ _ _ _ _ ⟨Cond.after_iff.mpr rfl, Cond.after_iff.mpr (eq_i res_at (Term.int_eval (1)) rfl), trivial⟩ ⟨hq.1, hq.2.1, (hq.2.2.sift fun y hy => Or.inr (N y hy)).mono (by decide) (by decide)⟩⟩
theorem main_1_1 : Claimed_1_1 := comes_1 fun _ _ _ _ _ _ h hF => ⟨h.1, hF⟩
theorem main_1_2 : Claimed_1_2 := comes_1 fun _ _ _ _ _ _ h hF => ⟨h.2.1, hF⟩
end Jvm.Pilot.@@N@@
namespace Jvm.Pilot.@@N@@
open Jvm Jvm.ClassFile Sem Op Lib Jvm.Free Jvm.Stand Jvm.Pilot.@@N@@.Jvm.D
/-! MADE BY PROGRAM (witnessworld.py) out of the Statement's table words and the real class files: 17 classes; the members and pool entries that the words name. The judged class is class 1, her method 3. -/
namespace start1
open Jvm.ClassFile
def u (s : String) : CpInfo := .utf8 (stringToUtf16 s)
/-- a pool by its gaps: so many unusable entries, then the entry; so many at the end -/
def gap : Nat → List CpInfo → List CpInfo
  | 0, r => r
  | n + 1, r => .unusable :: gap n r
def poolList (es : List (Nat × CpInfo)) (last : Nat) : List CpInfo := es.foldr (fun e r => gap e.1 (e.2 :: r)) (gap last [])
def pool (es : List (Nat × CpInfo)) (last : Nat) : Array CpInfo := ⟨poolList es last⟩
def fileOf (pool : Array CpInfo) (this : Nat) (attrs : Array Attribute := #[]) (ms : Array MethodInfo := #[]) (fl : Nat := 33) (sup : Nat := 0) (ifs : Array Nat := #[]) (fds : Array FieldInfo := #[]) : ClassFile where
  minorVersion := 0
  majorVersion := 65
  constantPool := pool
  accessFlags := fl
  thisClass := this
  superClass := sup
  interfaces := ifs
  fields := fds
  methods := ms
  attributes := attrs
def plain (name : String) (sup : Option ClassId) : Class where
  name := name
  kind := .ordinary
  loader := none
  accessFlags := 33
  super := sup
  interfaces := #[]
  cf := none
  fields := #[]
  methods := #[]
  instanceTypes := #[]
  staticTypes := #[]
  resolved := #[]
  callSites := []
  init := .initialized
  statics := none
  mirror := none

def pool0 : Array CpInfo := pool [(5, u "<init>"), (0, u "()V"), (1, .class_ 10), (1, u "java/lang/Object")] 113

def k0c0 : Code := { maxStack := 0, maxLocals := 1, code := object_method_1_code, exceptionTable := #[], attributes := #[] }
def k0m0 : Method := { name := "<init>", desc := "()V", sig := { parameters := [], returnType := none }, accessFlags := 1, code := some k0c0 }
/-- java/lang/Object -/
def k0 : Class := { plain "java/lang/Object" none with
  accessFlags := 33
  interfaces := #[]
  cf := some (fileOf pool0 8 #[] #[{ accessFlags := 1, nameIndex := 5, descriptorIndex := 6, attributes := #[] }] 33 0 #[] #[])
  fields := #[]
  methods := #[k0m0]
  instanceTypes := #[]
  staticTypes := #[]
  resolved := Array.replicate 124 none
  statics := none }

def pool1 : Array CpInfo := pool [(2, .class_ 4), (1, u "java/lang/Object"), (0, u "<init>"), (0, u "()V"), (0, .methodref 8 9), (0, .class_ 10), (0, .nameAndType 11 12), (0, u "com/example/lacuna/lacuna/GhostsForgetPinLaw"), (0, u "high"), (0, u "(J)J"), (0, .long 3), (1, .long 7), (1, .long 18446744069414584320), (1, .long 4294967295), (1, .class_ 22), (0, u "com/example/lacuna/lacuna/Ghosts"), (0, .methodref 21 24), (0, .nameAndType 5 25), (0, u "(J)V"), (0, .methodref 21 27), (0, .nameAndType 28 29), (0, u "forget"), (0, u "(J)I"), (0, .methodref 21 31), (0, .nameAndType 32 25), (0, u "add"), (0, .methodref 8 34), (0, .nameAndType 35 36), (0, u "answer"), (0, u "(JJJJZZ)I"), (3, u "law"), (0, u "(IJJJI)Z")] 2

def k1m0 : Method := { name := "<init>", desc := "()V", sig := { parameters := [], returnType := none }, accessFlags := 1, code := none }
def k1c1 : Code := { maxStack := 3, maxLocals := 2, code := method_2_code, exceptionTable := #[], attributes := #[] }
def k1m1 : Method := { name := "high", desc := "(J)J", sig := { parameters := [.long], returnType := some .long }, accessFlags := 10, code := some k1c1 }
def k1c2 : Code := { maxStack := 4, maxLocals := 12, code := method_3_code, exceptionTable := #[], attributes := #[] }
def k1m2 : Method := { name := "answer", desc := "(JJJJZZ)I", sig := { parameters := [.long, .long, .long, .long, .boolean, .boolean], returnType := some .int }, accessFlags := 10, code := some k1c2 }
def k1c3 : Code := { maxStack := 10, maxLocals := 25, code := code, exceptionTable := #[], attributes := #[] }
def k1m3 : Method := { name := "law", desc := "(IJJJI)Z", sig := { parameters := [.int, .long, .long, .long, .int], returnType := some .boolean }, accessFlags := 9, code := some k1c3 }
/-- com/example/lacuna/lacuna/GhostsForgetPinLaw -/
def k1 : Class := { plain "com/example/lacuna/lacuna/GhostsForgetPinLaw" (some 0) with
  accessFlags := 49
  interfaces := #[]
  cf := some (fileOf pool1 8 #[] #[{ accessFlags := 1, nameIndex := 5, descriptorIndex := 6, attributes := #[] }, { accessFlags := 10, nameIndex := 11, descriptorIndex := 12, attributes := #[] }, { accessFlags := 10, nameIndex := 35, descriptorIndex := 36, attributes := #[] }, { accessFlags := 9, nameIndex := 40, descriptorIndex := 41, attributes := #[] }] 49 2 #[] #[])
  fields := #[]
  methods := #[k1m0, k1m1, k1m2, k1m3]
  instanceTypes := #[]
  staticTypes := #[]
  resolved := Array.replicate 44 none
  statics := none }

def pool2 : Array CpInfo := pool [(1, .methodref 2 3), (0, .class_ 4), (0, .nameAndType 5 6), (0, u "java/lang/Object"), (0, u "<init>"), (0, u "()V"), (0, .long 2), (1, .class_ 10), (0, u "com/example/lacuna/lacuna/Ghosts"), (0, .long 1073741824), (1, .methodref 14 15), (0, .class_ 16), (0, .nameAndType 17 18), (0, u "java/lang/Math"), (0, u "min"), (0, u "(JJ)J"), (0, .methodref 14 20), (0, .nameAndType 21 18), (0, u "max"), (0, .methodref 23 24), (0, .class_ 25), (0, .nameAndType 26 27), (0, u "java/lang/Integer"), (0, u "highestOneBit"), (0, u "(I)I"), (0, .fieldref 9 29), (0, .nameAndType 30 31), (0, u "length"), (0, u "I"), (0, .fieldref 9 33), (0, .nameAndType 34 35), (0, u "slots"), (0, u "[J"), (0, .fieldref 9 37), (0, .nameAndType 38 31), (0, u "added"), (0, .long 18446744069414584320), (1, .long 4294967295), (1, u "MOST_SLOTS"), (2, u "(J)V"), (2, u "add"), (1, u "forget"), (0, u "(J)I")] 2

def k2c0 : Code := { maxStack := 5, maxLocals := 5, code := prog_11_method_1_code, exceptionTable := #[], attributes := #[] }
def k2m0 : Method := { name := "<init>", desc := "(J)V", sig := { parameters := [.long], returnType := none }, accessFlags := 0, code := some k2c0 }
def k2c1 : Code := { maxStack := 8, maxLocals := 3, code := prog_11_method_2_code, exceptionTable := #[], attributes := #[] }
def k2m1 : Method := { name := "add", desc := "(J)V", sig := { parameters := [.long], returnType := none }, accessFlags := 0, code := some k2c1 }
def k2c2 : Code := { maxStack := 4, maxLocals := 6, code := prog_11_method_3_code, exceptionTable := #[], attributes := #[] }
def k2m2 : Method := { name := "forget", desc := "(J)I", sig := { parameters := [.long], returnType := some .int }, accessFlags := 0, code := some k2c2 }
/-- com/example/lacuna/lacuna/Ghosts -/
def k2 : Class := { plain "com/example/lacuna/lacuna/Ghosts" (some 0) with
  accessFlags := 48
  interfaces := #[]
  cf := some (fileOf pool2 9 #[] #[{ accessFlags := 0, nameIndex := 5, descriptorIndex := 46, attributes := #[] }, { accessFlags := 0, nameIndex := 49, descriptorIndex := 46, attributes := #[] }, { accessFlags := 0, nameIndex := 51, descriptorIndex := 52, attributes := #[] }] 48 2 #[] #[{ accessFlags := 26, nameIndex := 43, descriptorIndex := 31, attributes := #[] }, { accessFlags := 18, nameIndex := 30, descriptorIndex := 31, attributes := #[] }, { accessFlags := 2, nameIndex := 34, descriptorIndex := 35, attributes := #[] }, { accessFlags := 2, nameIndex := 38, descriptorIndex := 31, attributes := #[] }])
  fields := #[{ name := "MOST_SLOTS", type := .int, accessFlags := 26, slot := 0, constantValue := 0 }, { name := "length", type := .int, accessFlags := 18, slot := 0, constantValue := 0 }, { name := "slots", type := (.array .long), accessFlags := 2, slot := 1, constantValue := 0 }, { name := "added", type := .int, accessFlags := 2, slot := 2, constantValue := 0 }]
  methods := #[k2m0, k2m1, k2m2]
  instanceTypes := #[.int, (.array .long), .int]
  staticTypes := #[.int]
  resolved := Array.replicate 55 none
  statics := none }

def pool3 : Array CpInfo := pool [(1, .class_ 2), (0, u "java/lang/Math"), (1, .class_ 6), (1, u "java/lang/Object"), (0, u "<init>"), (0, u "()V"), (89, .class_ 100), (1, u "java/lang/Math$RandomNumberGeneratorHolder"), (20, u "(JJ)J"), (50, u "negativeZeroFloatBits"), (0, u "J"), (2, u "negativeZeroDoubleBits"), (21, u "max"), (2, u "min"), (43, u "$assertionsDisabled"), (0, u "Z"), (91, u "twoToTheDoubleScaleDown"), (0, u "D"), (4, u "twoToTheDoubleScaleUp"), (9, u "E"), (3, u "PI"), (2, u "TAU"), (2, u "DEGREES_TO_RADIANS"), (0, u "RADIANS_TO_DEGREES")] 94

def k3m0 : Method := { name := "<init>", desc := "()V", sig := { parameters := [], returnType := none }, accessFlags := 2, code := none }
def k3c1 : Code := { maxStack := 4, maxLocals := 4, code := jdk_29_method_66_code, exceptionTable := #[], attributes := #[] }
def k3m1 : Method := { name := "max", desc := "(JJ)J", sig := { parameters := [.long, .long], returnType := some .long }, accessFlags := 9, code := some k3c1 }
def k3c2 : Code := { maxStack := 4, maxLocals := 4, code := jdk_29_method_70_code, exceptionTable := #[], attributes := #[] }
def k3m2 : Method := { name := "min", desc := "(JJ)J", sig := { parameters := [.long, .long], returnType := some .long }, accessFlags := 9, code := some k3c2 }
/-- java/lang/Math -/
def k3 : Class := { plain "java/lang/Math" (some 0) with
  accessFlags := 49
  interfaces := #[]
  cf := some (fileOf pool3 1 #[.nestMembers #[98]] #[{ accessFlags := 2, nameIndex := 7, descriptorIndex := 8, attributes := #[] }, { accessFlags := 9, nameIndex := 198, descriptorIndex := 121, attributes := #[] }, { accessFlags := 9, nameIndex := 201, descriptorIndex := 121, attributes := #[] }] 49 4 #[] #[{ accessFlags := 25, nameIndex := 354, descriptorIndex := 339, attributes := #[] }, { accessFlags := 25, nameIndex := 358, descriptorIndex := 339, attributes := #[] }, { accessFlags := 25, nameIndex := 361, descriptorIndex := 339, attributes := #[] }, { accessFlags := 26, nameIndex := 364, descriptorIndex := 339, attributes := #[] }, { accessFlags := 26, nameIndex := 365, descriptorIndex := 339, attributes := #[] }, { accessFlags := 26, nameIndex := 172, descriptorIndex := 173, attributes := #[] }, { accessFlags := 26, nameIndex := 176, descriptorIndex := 173, attributes := #[] }, { accessFlags := 8, nameIndex := 344, descriptorIndex := 339, attributes := #[] }, { accessFlags := 8, nameIndex := 338, descriptorIndex := 339, attributes := #[] }, { accessFlags := 4120, nameIndex := 245, descriptorIndex := 246, attributes := #[] }])
  fields := #[{ name := "E", type := .double, accessFlags := 25, slot := 0, constantValue := 0 }, { name := "PI", type := .double, accessFlags := 25, slot := 1, constantValue := 0 }, { name := "TAU", type := .double, accessFlags := 25, slot := 2, constantValue := 0 }, { name := "DEGREES_TO_RADIANS", type := .double, accessFlags := 26, slot := 3, constantValue := 0 }, { name := "RADIANS_TO_DEGREES", type := .double, accessFlags := 26, slot := 4, constantValue := 0 }, { name := "negativeZeroFloatBits", type := .long, accessFlags := 26, slot := 5, constantValue := 0 }, { name := "negativeZeroDoubleBits", type := .long, accessFlags := 26, slot := 6, constantValue := 0 }, { name := "twoToTheDoubleScaleUp", type := .double, accessFlags := 8, slot := 7, constantValue := 0 }, { name := "twoToTheDoubleScaleDown", type := .double, accessFlags := 8, slot := 8, constantValue := 0 }, { name := "$assertionsDisabled", type := .boolean, accessFlags := 4120, slot := 9, constantValue := 0 }]
  methods := #[k3m0, k3m1, k3m2]
  instanceTypes := #[]
  staticTypes := #[.double, .double, .double, .double, .double, .long, .long, .double, .double, .boolean]
  resolved := Array.replicate 460 none
  statics := none }

def pool4 : Array CpInfo := pool [(1, .class_ 2), (0, u "java/io/Serializable"), (0, .class_ 4), (0, u "java/lang/Object")] 2

/-- java/io/Serializable -/
def k4 : Class := { plain "java/io/Serializable" (some 0) with
  accessFlags := 1537
  interfaces := #[]
  cf := some (fileOf pool4 1 #[] #[] 1537 3 #[] #[])
  fields := #[]
  methods := #[]
  instanceTypes := #[]
  staticTypes := #[]
  resolved := Array.replicate 7 none
  statics := none }

def pool5 : Array CpInfo := pool [(2, .class_ 4), (1, u "java/lang/Object"), (0, u "<init>"), (0, u "()V"), (1, .class_ 10), (1, u "java/lang/Number"), (2, .class_ 14), (0, u "java/io/Serializable"), (0, u "serialVersionUID"), (0, u "J")] 20

def k5m0 : Method := { name := "<init>", desc := "()V", sig := { parameters := [], returnType := none }, accessFlags := 1, code := none }
/-- java/lang/Number -/
def k5 : Class := { plain "java/lang/Number" (some 0) with
  accessFlags := 1057
  interfaces := #[4]
  cf := some (fileOf pool5 8 #[] #[{ accessFlags := 1, nameIndex := 5, descriptorIndex := 6, attributes := #[] }] 1057 2 #[13] #[{ accessFlags := 26, nameIndex := 15, descriptorIndex := 16, attributes := #[] }])
  fields := #[{ name := "serialVersionUID", type := .long, accessFlags := 26, slot := 0, constantValue := 0 }]
  methods := #[k5m0]
  instanceTypes := #[]
  staticTypes := #[.long]
  resolved := Array.replicate 37 none
  statics := none }

def pool6 : Array CpInfo := pool [(1, .class_ 2), (0, u "java/lang/Comparable"), (0, .class_ 4), (0, u "java/lang/Object")] 7

/-- java/lang/Comparable -/
def k6 : Class := { plain "java/lang/Comparable" (some 0) with
  accessFlags := 1537
  interfaces := #[]
  cf := some (fileOf pool6 1 #[] #[] 1537 3 #[] #[])
  fields := #[]
  methods := #[]
  instanceTypes := #[]
  staticTypes := #[]
  resolved := Array.replicate 12 none
  statics := none }

def pool7 : Array CpInfo := pool [(1, .class_ 2), (0, u "java/lang/constant/Constable"), (0, .class_ 4), (0, u "java/lang/Object")] 6

/-- java/lang/constant/Constable -/
def k7 : Class := { plain "java/lang/constant/Constable" (some 0) with
  accessFlags := 1537
  interfaces := #[]
  cf := some (fileOf pool7 1 #[] #[] 1537 3 #[] #[])
  fields := #[]
  methods := #[]
  instanceTypes := #[]
  staticTypes := #[]
  resolved := Array.replicate 11 none
  statics := none }

def pool8 : Array CpInfo := pool [(1, .class_ 2), (0, u "java/lang/constant/ConstantDesc"), (0, .class_ 4), (0, u "java/lang/Object")] 32

/-- java/lang/constant/ConstantDesc -/
def k8 : Class := { plain "java/lang/constant/ConstantDesc" (some 0) with
  accessFlags := 1537
  interfaces := #[]
  cf := some (fileOf pool8 1 #[] #[] 1537 3 #[] #[])
  fields := #[]
  methods := #[]
  instanceTypes := #[]
  staticTypes := #[]
  resolved := Array.replicate 37 none
  statics := none }

def pool9 : Array CpInfo := pool [(1, .class_ 2), (0, u "java/lang/Integer"), (16, u "digits"), (0, u "[C"), (30, .methodref 1 52), (0, .nameAndType 53 54), (0, u "numberOfLeadingZeros"), (0, u "(I)I"), (30, u "DigitOnes"), (0, u "[B"), (2, u "DigitTens"), (37, .integer 2147483648), (61, .class_ 190), (0, u "java/lang/Integer$IntegerCache"), (3, u "I"), (8, .class_ 204), (0, u "java/lang/Number"), (2, u "value"), (56, .integer 65536), (37, u "TYPE"), (0, u "Ljava/lang/Class;"), (0, .class_ 305), (0, u "java/lang/Comparable"), (0, .class_ 307), (0, u "java/lang/constant/Constable"), (0, .class_ 309), (0, u "java/lang/constant/ConstantDesc"), (0, u "MIN_VALUE"), (1, u "MAX_VALUE"), (3, u "SIZE"), (1, u "BYTES"), (1, u "serialVersionUID"), (0, u "J"), (81, u "highestOneBit")] 49

def k9c0 : Code := { maxStack := 3, maxLocals := 1, code := jdk_33_method_45_code, exceptionTable := #[], attributes := #[] }
def k9m0 : Method := { name := "highestOneBit", desc := "(I)I", sig := { parameters := [.int], returnType := some .int }, accessFlags := 9, code := some k9c0 }
def k9c1 : Code := { maxStack := 3, maxLocals := 2, code := jdk_33_method_47_code, exceptionTable := #[], attributes := #[] }
def k9m1 : Method := { name := "numberOfLeadingZeros", desc := "(I)I", sig := { parameters := [.int], returnType := some .int }, accessFlags := 9, code := some k9c1 }
/-- java/lang/Integer -/
def k9 : Class := { plain "java/lang/Integer" (some 5) with
  accessFlags := 49
  interfaces := #[6, 7, 8]
  cf := some (fileOf pool9 1 #[.nestMembers #[189]] #[{ accessFlags := 9, nameIndex := 403, descriptorIndex := 54, attributes := #[] }, { accessFlags := 9, nameIndex := 53, descriptorIndex := 54, attributes := #[] }] 49 203 #[304, 306, 308] #[{ accessFlags := 25, nameIndex := 310, descriptorIndex := 194, attributes := #[] }, { accessFlags := 25, nameIndex := 312, descriptorIndex := 194, attributes := #[] }, { accessFlags := 25, nameIndex := 302, descriptorIndex := 303, attributes := #[] }, { accessFlags := 24, nameIndex := 19, descriptorIndex := 20, attributes := #[] }, { accessFlags := 24, nameIndex := 89, descriptorIndex := 86, attributes := #[] }, { accessFlags := 24, nameIndex := 85, descriptorIndex := 86, attributes := #[] }, { accessFlags := 18, nameIndex := 207, descriptorIndex := 194, attributes := #[] }, { accessFlags := 25, nameIndex := 316, descriptorIndex := 194, attributes := #[] }, { accessFlags := 25, nameIndex := 318, descriptorIndex := 194, attributes := #[] }, { accessFlags := 26, nameIndex := 320, descriptorIndex := 321, attributes := #[] }])
  fields := #[{ name := "MIN_VALUE", type := .int, accessFlags := 25, slot := 0, constantValue := 0 }, { name := "MAX_VALUE", type := .int, accessFlags := 25, slot := 1, constantValue := 0 }, { name := "TYPE", type := (.object "java/lang/Class"), accessFlags := 25, slot := 2, constantValue := 0 }, { name := "digits", type := (.array .char), accessFlags := 24, slot := 3, constantValue := 0 }, { name := "DigitTens", type := (.array .byte), accessFlags := 24, slot := 4, constantValue := 0 }, { name := "DigitOnes", type := (.array .byte), accessFlags := 24, slot := 5, constantValue := 0 }, { name := "value", type := .int, accessFlags := 18, slot := 0, constantValue := 0 }, { name := "SIZE", type := .int, accessFlags := 25, slot := 6, constantValue := 0 }, { name := "BYTES", type := .int, accessFlags := 25, slot := 7, constantValue := 0 }, { name := "serialVersionUID", type := .long, accessFlags := 26, slot := 8, constantValue := 0 }]
  methods := #[k9m0, k9m1]
  instanceTypes := #[.int]
  staticTypes := #[.int, .int, (.object "java/lang/Class"), (.array .char), (.array .byte), (.array .byte), .int, .int, .long]
  resolved := Array.replicate 453 none
  statics := none }

def pool10 : Array CpInfo := pool [(1, u "java/lang/Cloneable"), (0, .class_ 1), (0, u "java/lang/Object"), (0, .class_ 3)] 3

/-- java/lang/Cloneable -/
def k10 : Class := { plain "java/lang/Cloneable" (some 0) with
  accessFlags := 1537
  interfaces := #[]
  cf := some (fileOf pool10 2 #[] #[] 1537 4 #[] #[])
  fields := #[]
  methods := #[]
  instanceTypes := #[]
  staticTypes := #[]
  resolved := Array.replicate 8 none
  statics := none }

/-- the primitive byte -/
def k11 : Class := { plain "byte" none with kind := .primitive 'B', accessFlags := 0x411 }
/-- [B -/
def k12 : Class := { plain "[B" (some 0) with kind := .array 11 .byte, interfaces := #[10, 4], accessFlags := 1041 }

/-- the primitive int -/
def k13 : Class := { plain "int" none with kind := .primitive 'I', accessFlags := 0x411 }
/-- [I -/
def k14 : Class := { plain "[I" (some 0) with kind := .array 13 .int, interfaces := #[10, 4], accessFlags := 1041 }

/-- the primitive long -/
def k15 : Class := { plain "long" none with kind := .primitive 'J', accessFlags := 0x411 }
/-- [J -/
def k16 : Class := { plain "[J" (some 0) with kind := .array 15 .long, interfaces := #[10, 4], accessFlags := 1041 }

def heap : Heap := #[]
def classes : Array Class := #[k0, k1, k2, k3, k4, k5, k6, k7, k8, k9, k10, k11, k12, k13, k14, k15, k16]
def interned : List (Array UInt16 × Addr) := []
def slotsUsed : Nat := 0
def theMethod : MethodId := ⟨1, 3⟩
def args0 : Array Value := #[.int 5, .long 7, .long 3, .long 1, .int 2]
def aboutOver (below : List Frame) : State where
  vm := { classes := classes, interned := interned.toArray }
  heap := heap
  slotsUsed := slotsUsed
  threads := #[{ frames := .invoking theMethod args0 :: below }]
def below0 : List Frame := [.native { method := ⟨0, 0⟩, args := #[] }]
def about1 : State := aboutOver below0
def p0 : Program := .bare "" "" ""
def e0 : Env := launch0.env 0 0 0
theorem w_frames : about1.frames = Frame.invoking theMethod args0 :: below0 := rfl
set_option maxRecDepth 65536 in
theorem w_args : argsFit about1.vm theMethod args0 = true := by decide +kernel
set_option maxRecDepth 65536 in
theorem w_heap : heapFits about1 = true := by decide +kernel
set_option maxRecDepth 65536 in
theorem w_runnable : about1.curStatus? = some .runnable := by decide +kernel
set_option maxRecDepth 65536 in
theorem w_alone : about1.alone = true := by decide +kernel
set_option maxRecDepth 65536 in
theorem w_named : about1.methodNamed? x = some theMethod := by decide +kernel
set_option maxRecDepth 65536 in
theorem w_hears : about1.hears theMethod below0 = true := by decide +kernel
set_option maxRecDepth 65536 in
theorem w_ripe : about1.ripe theMethod args0 below0 = true := by decide +kernel
theorem w_running : about1.status = .running := rfl
set_option maxRecDepth 65536 in
theorem w_room : about1.hasRoom e0.platform room_1 = true :=
  launch0.hasRoom_least _ room_1 (by decide +kernel) (by decide +kernel) (by decide +kernel) (by decide +kernel) (by decide +kernel) (by decide +kernel)
theorem allAtoms_all (ts : List Jvm.Cond) (a : Array Jvm.Value) (st : Jvm.State) : (allAtoms ts).before a st = ts.all (fun c => c.before a st) := by
  induction ts with
  | nil => rfl
  | cons c t ih =>
    show (Jvm.Cond.and c (allAtoms t)).before a st = _
    rw [Jvm.Cond.before_and, ih, List.all_cons]
def words1 : List Jvm.Cond := Jvm.Cond.code x code maxLocals ret :: tables_1
/-- a 'code' word, met by the world's own term for the bytes: nothing is compared byte by byte -/
theorem code_word {y : MethodName} {bytes : ByteArray} {mx : Nat} {rt : Option FieldType} {a : Array Value} {s : State} {m : MethodId} {meth : Method} {c : Code} (h1 : s.methodNamed? y = some m) (h2 : s.vm.method? m = some meth) (h3 : meth.code = some c) (h4 : c.code = bytes)
    (h5 : (c.maxLocals == mx && c.exceptionTable.isEmpty && decide (c.maxStack ≤ mostOperands) && decide (meth.sig.returnType = rt) && !meth.locks && decide (parseMethodDescriptor y.desc = some meth.sig)) = true) : (Jvm.Cond.code y bytes mx rt).before a s = true := by
  simp only [Bool.and_eq_true, beq_iff_eq, Bool.not_eq_true', decide_eq_true_eq] at h5
  obtain ⟨⟨⟨⟨⟨g1, g2⟩, g3⟩, g4⟩, g5⟩, g6⟩ := h5
  simp [Cond.before, Cond.holds, Cond.value, h1, h2, h3, h4, g1, g2, g3, g4, g5, g6]
def isCode : Jvm.Cond → Bool
  | .code _ _ _ _ => true
  | _ => false
theorem all_split {L : List Jvm.Cond} {P : Jvm.Cond → Bool} (h1 : L.all (fun c => isCode c || P c) = true) (h2 : ∀ c ∈ L.filter isCode, P c = true) : L.all P = true := by
  refine List.all_eq_true.mpr fun c hc => ?_
  have h := List.all_eq_true.mp h1 c hc
  rcases Bool.eq_false_or_eq_true (isCode c) with hi | hi
  · exact h2 c (List.mem_filter.mpr ⟨hc, hi⟩)
  · simpa [hi] using h
set_option maxRecDepth 65536 in
theorem w_c0 : (Jvm.Cond.code x code maxLocals ret).before args0 about1 = true := code_word (m := ⟨1, 3⟩) (meth := k1m3) (c := k1c3) (by decide +kernel) rfl rfl rfl (by decide +kernel)
set_option maxRecDepth 65536 in
theorem w_c1 : (Jvm.Cond.code ({ cls := "com/example/lacuna/lacuna/Ghosts", name := "<init>", desc := "(J)V" } : Jvm.MethodName) prog_11_method_1_code (5 : Nat) (Option.none : Option Jvm.ClassFile.FieldType)).before args0 about1 = true := code_word (m := ⟨2, 0⟩) (meth := k2m0) (c := k2c0) (by decide +kernel) rfl rfl rfl (by decide +kernel)
set_option maxRecDepth 65536 in
theorem w_c2 : (Jvm.Cond.code ({ cls := "java/lang/Object", name := "<init>", desc := "()V" } : Jvm.MethodName) object_method_1_code (1 : Nat) (Option.none : Option Jvm.ClassFile.FieldType)).before args0 about1 = true := code_word (m := ⟨0, 0⟩) (meth := k0m0) (c := k0c0) (by decide +kernel) rfl rfl rfl (by decide +kernel)
set_option maxRecDepth 65536 in
theorem w_c3 : (Jvm.Cond.code ({ cls := "java/lang/Math", name := "min", desc := "(JJ)J" } : Jvm.MethodName) jdk_29_method_70_code (4 : Nat) (Option.some Jvm.ClassFile.FieldType.long)).before args0 about1 = true := code_word (m := ⟨3, 2⟩) (meth := k3m2) (c := k3c2) (by decide +kernel) rfl rfl rfl (by decide +kernel)
set_option maxRecDepth 65536 in
theorem w_c4 : (Jvm.Cond.code ({ cls := "java/lang/Math", name := "max", desc := "(JJ)J" } : Jvm.MethodName) jdk_29_method_66_code (4 : Nat) (Option.some Jvm.ClassFile.FieldType.long)).before args0 about1 = true := code_word (m := ⟨3, 1⟩) (meth := k3m1) (c := k3c1) (by decide +kernel) rfl rfl rfl (by decide +kernel)
set_option maxRecDepth 65536 in
theorem w_c5 : (Jvm.Cond.code ({ cls := "java/lang/Integer", name := "highestOneBit", desc := "(I)I" } : Jvm.MethodName) jdk_33_method_45_code (1 : Nat) (Option.some Jvm.ClassFile.FieldType.int)).before args0 about1 = true := code_word (m := ⟨9, 0⟩) (meth := k9m0) (c := k9c0) (by decide +kernel) rfl rfl rfl (by decide +kernel)
set_option maxRecDepth 65536 in
theorem w_c6 : (Jvm.Cond.code ({ cls := "java/lang/Integer", name := "numberOfLeadingZeros", desc := "(I)I" } : Jvm.MethodName) jdk_33_method_47_code (2 : Nat) (Option.some Jvm.ClassFile.FieldType.int)).before args0 about1 = true := code_word (m := ⟨9, 1⟩) (meth := k9m1) (c := k9c1) (by decide +kernel) rfl rfl rfl (by decide +kernel)
set_option maxRecDepth 65536 in
theorem w_c7 : (Jvm.Cond.code ({ cls := "com/example/lacuna/lacuna/Ghosts", name := "forget", desc := "(J)I" } : Jvm.MethodName) prog_11_method_3_code (6 : Nat) (Option.some Jvm.ClassFile.FieldType.int)).before args0 about1 = true := code_word (m := ⟨2, 2⟩) (meth := k2m2) (c := k2c2) (by decide +kernel) rfl rfl rfl (by decide +kernel)
set_option maxRecDepth 65536 in
theorem w_c8 : (Jvm.Cond.code ({ cls := "com/example/lacuna/lacuna/Ghosts", name := "add", desc := "(J)V" } : Jvm.MethodName) prog_11_method_2_code (3 : Nat) (Option.none : Option Jvm.ClassFile.FieldType)).before args0 about1 = true := code_word (m := ⟨2, 1⟩) (meth := k2m1) (c := k2c1) (by decide +kernel) rfl rfl rfl (by decide +kernel)
set_option maxRecDepth 65536 in
theorem w_c9 : (Jvm.Cond.code ({ cls := "com/example/lacuna/lacuna/GhostsForgetPinLaw", name := "answer", desc := "(JJJJZZ)I" } : Jvm.MethodName) method_3_code (12 : Nat) (Option.some Jvm.ClassFile.FieldType.int)).before args0 about1 = true := code_word (m := ⟨1, 2⟩) (meth := k1m2) (c := k1c2) (by decide +kernel) rfl rfl rfl (by decide +kernel)
set_option maxRecDepth 65536 in
theorem w_c10 : (Jvm.Cond.code ({ cls := "com/example/lacuna/lacuna/GhostsForgetPinLaw", name := "high", desc := "(J)J" } : Jvm.MethodName) method_2_code (2 : Nat) (Option.some Jvm.ClassFile.FieldType.long)).before args0 about1 = true := code_word (m := ⟨1, 1⟩) (meth := k1m1) (c := k1c1) (by decide +kernel) rfl rfl rfl (by decide +kernel)
def codes1 : List Jvm.Cond := [Jvm.Cond.code x code maxLocals ret, Jvm.Cond.code ({ cls := "com/example/lacuna/lacuna/Ghosts", name := "<init>", desc := "(J)V" } : Jvm.MethodName) prog_11_method_1_code (5 : Nat) (Option.none : Option Jvm.ClassFile.FieldType), Jvm.Cond.code ({ cls := "java/lang/Object", name := "<init>", desc := "()V" } : Jvm.MethodName) object_method_1_code (1 : Nat) (Option.none : Option Jvm.ClassFile.FieldType), Jvm.Cond.code ({ cls := "java/lang/Math", name := "min", desc := "(JJ)J" } : Jvm.MethodName) jdk_29_method_70_code (4 : Nat) (Option.some Jvm.ClassFile.FieldType.long), Jvm.Cond.code ({ cls := "java/lang/Math", name := "max", desc := "(JJ)J" } : Jvm.MethodName) jdk_29_method_66_code (4 : Nat) (Option.some Jvm.ClassFile.FieldType.long), Jvm.Cond.code ({ cls := "java/lang/Integer", name := "highestOneBit", desc := "(I)I" } : Jvm.MethodName) jdk_33_method_45_code (1 : Nat) (Option.some Jvm.ClassFile.FieldType.int), Jvm.Cond.code ({ cls := "java/lang/Integer", name := "numberOfLeadingZeros", desc := "(I)I" } : Jvm.MethodName) jdk_33_method_47_code (2 : Nat) (Option.some Jvm.ClassFile.FieldType.int), Jvm.Cond.code ({ cls := "com/example/lacuna/lacuna/Ghosts", name := "forget", desc := "(J)I" } : Jvm.MethodName) prog_11_method_3_code (6 : Nat) (Option.some Jvm.ClassFile.FieldType.int), Jvm.Cond.code ({ cls := "com/example/lacuna/lacuna/Ghosts", name := "add", desc := "(J)V" } : Jvm.MethodName) prog_11_method_2_code (3 : Nat) (Option.none : Option Jvm.ClassFile.FieldType), Jvm.Cond.code ({ cls := "com/example/lacuna/lacuna/GhostsForgetPinLaw", name := "answer", desc := "(JJJJZZ)I" } : Jvm.MethodName) method_3_code (12 : Nat) (Option.some Jvm.ClassFile.FieldType.int), Jvm.Cond.code ({ cls := "com/example/lacuna/lacuna/GhostsForgetPinLaw", name := "high", desc := "(J)J" } : Jvm.MethodName) method_2_code (2 : Nat) (Option.some Jvm.ClassFile.FieldType.long)]
set_option maxRecDepth 65536 in
theorem codes_eq : words1.filter isCode = codes1 := rfl
theorem w_codes : ∀ c ∈ words1.filter isCode, c.before args0 about1 = true := by
  rw [codes_eq]
  intro c hc
  simp only [codes1, List.mem_cons, List.not_mem_nil, or_false] at hc
  rcases hc with rfl | rfl | rfl | rfl | rfl | rfl | rfl | rfl | rfl | rfl | rfl
  · exact w_c0
  · exact w_c1
  · exact w_c2
  · exact w_c3
  · exact w_c4
  · exact w_c5
  · exact w_c6
  · exact w_c7
  · exact w_c8
  · exact w_c9
  · exact w_c10
set_option maxRecDepth 65536 in
theorem w_t1 : (words1.take 24).all (fun c => isCode c || c.before args0 about1) = true := by decide +kernel
set_option maxRecDepth 65536 in
theorem w_t2 : ((words1.drop 24).take 24).all (fun c => isCode c || c.before args0 about1) = true := by decide +kernel
set_option maxRecDepth 65536 in
theorem w_t3 : ((words1.drop 24).drop 24).all (fun c => isCode c || c.before args0 about1) = true := by decide +kernel
theorem w_tables : (allAtoms (Jvm.Cond.code x code maxLocals ret :: tables_1)).before args0 about1 = true := by
  rw [allAtoms_all]
  show words1.all (fun c => c.before args0 about1) = true
  refine all_split ?_ w_codes
  rw [← List.take_append_drop 24 words1, List.all_append, w_t1, ← List.take_append_drop 24 (words1.drop 24), List.all_append, w_t2, w_t3]
  rfl
set_option maxRecDepth 65536 in
theorem w_case : (Jvm.Cond.and given_1 narrow_1).before args0 about1 = true := by decide +kernel
theorem w_applies : (headSpec (Jvm.Cond.code x code maxLocals ret :: tables_1) room_1).applies x e0.platform about1 = true :=
  (Spec.applies_iff w_frames).mpr ⟨w_running, w_runnable, w_alone, w_named, w_hears, w_ripe, w_room, w_tables⟩
theorem atStart : AtStart classFile x code maxLocals ret World_1 tables_1 room_1 Calls_1 rest_1 Pre_1 launch0 p0 e0 about1 theMethod args0 below0 :=
  ⟨lists_1, trivial, launch0.admits_env _ _ _, launch0.least_env, fairChoices_fair.cas, fairChoices_fair.clock, w_frames, w_args, w_heap, w_applies, trivial, trivial, w_case⟩
end start1
theorem witness_1 : WitnessClaimed_1 := ⟨start1.p0, start1.e0, start1.about1, start1.theMethod, start1.args0, start1.below0, start1.atStart⟩
end Jvm.Pilot.@@N@@
