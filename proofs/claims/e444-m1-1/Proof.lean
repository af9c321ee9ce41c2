import JvmDerived
import JvmDerived.Pilot.@@N@@Statement
import JvmDerived.Pilot.@@N@@Code
set_option linter.unusedVariables false
set_option linter.unusedSimpArgs false
@@BLOCK:NumsL.lean.txt@@
@@BLOCK:Masks.lean.txt@@
namespace Jvm.RoadKit
open Sem ClassFile Op Lib Jvm.Stand Jvm.Free Jvm.LawKit
section New
variable {p : Program} {l : Launch} {e : Env} {R : Room} {s : State} {m : MethodId} {args : Array Value} {below : List Frame} {meth : Method} {c : Code} {T : State} {locs : List Loc} {cells slots : Nat}
theorem retI (X : Stand p l e R s m args below meth c T locs cells slots) (hx : p.tables.exec = Jvm.exec) {pc : Nat} {Ls : Array Slot} {z : Int32} {rest : List Value} (hret : meth.sig.returnType = some .int) (hd : decode c.code pc = .ok (.ireturn, 1)) {fs : List Frame}
    (hl : ∀ (f : JFrame) (acts : List Action), f.method = m → f.locked = none → f.entered = [] → (doReturn e (T.setTop f) acts (some (.int z))).1 = T.setFrames fs) : Steps p.tables e below (T.setTop (mkF m pc Ls (.int z :: rest))) (T.setFrames fs) := by
  have hm' : T.vm.method? m = some meth := X.method'
  have hn : narrow .int (.int z) = .int z := rfl
  show Steps p.tables e below (T.setTop { method := m, pc := pc, locals := Ls, stack := _ :: rest, locked := none }) _
  jvm_step X.here [X.here.top, hx, hd, hm', hret, hn]
  first | (intro acts; rw [hl _ acts rfl rfl rfl]) | rw [hl _ _ rfl rfl rfl]
  exact Steps.refl _
end New
end Jvm.RoadKit
namespace Jvm.Pilot.@@N@@
open Jvm Jvm.ClassFile Sem Op Lib Jvm.Free Jvm.Stand Jvm.LawKit Jvm.RoadKit Bundle Jvm.Pilot.@@N@@.Jvm.D
-- a layer of my own over the library's laws: a point of a walk (own_W), its end (own_G), a body's contract (own_M)
abbrev OwnK : Type := Program × Launch × Env × State × MethodId × Array Value × List Frame × Method × Code × State
abbrev OwnB : Type := MethodName × ByteArray × Nat × Option FieldType × Room
abbrev OwnB.y (B : OwnB) : MethodName := B.1
abbrev OwnB.bytes (B : OwnB) : ByteArray := B.2.1
abbrev OwnB.ml (B : OwnB) : Nat := B.2.2.1
abbrev OwnB.ret (B : OwnB) : Option FieldType := B.2.2.2.1
abbrev OwnB.rm (B : OwnB) : Room := B.2.2.2.2
def own_W (K : OwnK) (B : OwnB) (Z : State) (n0 : Nat) (h : Heap) (ck cs pc : Nat) (L : Array Slot) (S : List Value) : Prop :=
  match K with
  | (p, l, e, s, m, args, below, meth, c, start) =>
    p.tables.exec = Jvm.exec ∧ Z.Warmed39 s.vm ∧ s.vm.findClass B.y.cls = some m.cls ∧ meth.name = B.y.name ∧ c.code = B.bytes ∧ c.maxLocals = B.ml ∧ meth.sig.returnType = B.ret ∧ meth.locks = false ∧ n0 ≤ h.size ∧
      ∃ (T : State) (locs : List Loc), Stand p l e B.rm s m args below meth c T locs ck cs ∧ T.heap = h ∧ Fr n0 locs ∧
        ∀ tg, Steps p.tables e below (T.setTop (mkF m pc L S)) tg → Steps p.tables e below start tg
def own_G (K : OwnK) (n0 ck cs : Nat) (Q : Option Value → Heap → Prop) : Prop :=
  match K with
  | (p, _, e, s, _, _, below, _, _, start) =>
    ∃ s₂ o, Steps p.tables e below start s₂ ∧ s₂.status = .running ∧ Ended s₂ below o ∧
      ∃ v L, o = .returned v ∧ (Q v s₂.heap ∧ Fr n0 L ∧ n0 ≤ s₂.heap.size) ∧ FrameEnd s o s₂ L ck cs
def own_M (l : Launch) (Z : State) (n0 : Nat) (B : OwnB) (as : Array Value) (h : Heap) (Q : Option Value → Heap → Prop) : Prop :=
  ∀ ws : List Jvm.Cond, MetFree l B.y (head1 (Jvm.Cond.code B.y B.bytes B.ml B.ret :: ws) B.rm) (fun a U => a = as ∧ Z.Warmed39 U.vm ∧ U.heap = h) (fun _ _ _ _ _ => True)
    (fun _ U o U' => ∃ v L, o = .returned v ∧ (Q v U'.heap ∧ Fr n0 L ∧ n0 ≤ U'.heap.size) ∧ FrameEnd U o U' L B.rm.cells B.rm.slots)
theorem own_enter {l : Launch} {Z : State} {n0 : Nat} {B : OwnB} {as : Array Value} {h : Heap} {Q : Option Value → Heap → Prop} (hn0 : n0 ≤ h.size) (pn : plainName B.y.cls = true) {L0 : Array Slot} (ef : ∀ m, entryFrame m as B.ml = mkF m 0 L0 [])
    (body : ∀ K, own_W K B Z n0 h 0 0 0 L0 [] → own_G K n0 B.rm.cells B.rm.slots Q) : own_M l Z n0 B as h Q := by
  intro ws
  refine MetFree.of_bodySF (plainFor_of_name pn) hisR ?_
  intro p e s m args below meth c s₁ Bd hml0 hP hK
  obtain ⟨rfl, hZ, hh⟩ := hP
  exact body (p, l, e, s, m, args, below, meth, c, s₁.setTop (entryFrame m args B.ml)) ⟨Bd.exec, hZ, findClass_of_methodNamed Bd.named, (name_of_methodNamed Bd.named Bd.method).1, Bd.bytes, hml0, Bd.returns, Bd.notSynchronized, hn0, s₁, [], Stand.of_body Bd, by rw [← hh, Bd.state]; rfl, Fr.nil n0, fun t k => castTop (ef m) k⟩
section Own
variable {K : OwnK} {B : OwnB} {Z : State} {n0 : Nat} {h : Heap} {ck cs pc : Nat} {L : Array Slot} {S : List Value} {a0 : Array Value}
theorem own_step {pc' : Nat} {L' : Array Slot} {S' : List Value} (w : own_W K B Z n0 h ck cs pc L S)
    (st : ∀ {p : Program} {l : Launch} {e : Env} {s : State} {m : MethodId} {args : Array Value} {below : List Frame} {meth : Method} {c : Code} {T : State} {locs : List Loc}, Stand p l e B.rm s m args below meth c T locs ck cs → p.tables.exec = Jvm.exec → Z.Warmed39 s.vm → s.vm.findClass B.y.cls = some m.cls → c.code = B.bytes → T.heap = h →
      ∀ tg, Steps p.tables e below (T.setTop (mkF m pc' L' S')) tg → Steps p.tables e below (T.setTop (mkF m pc L S)) tg) : own_W K B Z n0 h ck cs pc' L' S' := by
  obtain ⟨p, l, e, s, m, args, below, meth, c, start⟩ := K
  obtain ⟨hx, hZ, hown, hnm, hby, hml, hret, hlk, hn, T, locs, X, eT, N, pre⟩ := w
  exact ⟨hx, hZ, hown, hnm, hby, hml, hret, hlk, hn, T, locs, X, eT, N, fun tg k => pre tg (st X hx hZ hown hby eT tg k)⟩
theorem own_cast {pc' : Nat} {L' : Array Slot} {S' : List Value} {h' : Heap} {ck' cs' : Nat} (w : own_W K B Z n0 h ck cs pc L S) (e1 : h = h') (e2 : ck = ck') (e3 : cs = cs') (e4 : pc = pc') (e5 : L = L') (e6 : S = S') : own_W K B Z n0 h' ck' cs' pc' L' S' := by
  subst e1 e2 e3 e4 e5 e6; exact w
theorem own_size (w : own_W K B Z n0 h ck cs pc L S) : n0 ≤ h.size := by
  obtain ⟨p, l, e, s, m, args, below, meth, c, start⟩ := K
  exact w.2.2.2.2.2.2.2.2.1
theorem own_iloadN (w : own_W K B Z n0 h ck cs pc L S) {k : Fin 4} {v : Int32} (hd : decode B.bytes pc = .ok (.iload_n k, 1)) (hl : L[k.val]? = some (.val (.int v))) : own_W K B Z n0 h ck cs (pc + 1) L (.int v :: S) :=
  own_step w fun X hx _ _ hby _ tg kt => XS.iloadN X.here hx rfl (hb hby hd) hl kt
theorem own_iload (w : own_W K B Z n0 h ck cs pc L S) {k : Nat} {v : Int32} (hd : decode B.bytes pc = .ok (.iload k, 2)) (hl : L[k]? = some (.val (.int v))) : own_W K B Z n0 h ck cs (pc + 2) L (.int v :: S) :=
  own_step w fun X hx _ _ hby _ tg kt => XS.iload X.here hx rfl (hb hby hd) hl kt
theorem own_lloadN (w : own_W K B Z n0 h ck cs pc L S) {k : Fin 4} {v : Int64} (hd : decode B.bytes pc = .ok (.lload_n k, 1)) (hl : L[k.val]? = some (.val (.long v))) : own_W K B Z n0 h ck cs (pc + 1) L (.long v :: S) :=
  own_step w fun X hx _ _ hby _ tg kt => XS.lloadN X.here hx rfl (hb hby hd) hl kt
theorem own_lload (w : own_W K B Z n0 h ck cs pc L S) {k : Nat} {v : Int64} (hd : decode B.bytes pc = .ok (.lload k, 2)) (hl : L[k]? = some (.val (.long v))) : own_W K B Z n0 h ck cs (pc + 2) L (.long v :: S) :=
  own_step w fun X hx _ _ hby _ tg kt => XS.lload X.here hx rfl (hb hby hd) hl kt
theorem own_aloadN (w : own_W K B Z n0 h ck cs pc L S) {k : Fin 4} {a : Addr} (hd : decode B.bytes pc = .ok (.aload_n k, 1)) (hl : L[k.val]? = some (.val (.ref a))) : own_W K B Z n0 h ck cs (pc + 1) L (.ref a :: S) :=
  own_step w fun X hx _ _ hby _ tg kt => XS.aloadN X.here hx rfl (hb hby hd) hl rfl kt
theorem own_aload (w : own_W K B Z n0 h ck cs pc L S) {k : Nat} {a : Addr} (hd : decode B.bytes pc = .ok (.aload k, 2)) (hl : L[k]? = some (.val (.ref a))) : own_W K B Z n0 h ck cs (pc + 2) L (.ref a :: S) :=
  own_step w fun X hx _ _ hby _ tg kt => XS.aload X.here hx rfl (hb hby hd) hl rfl kt
theorem own_iconst (w : own_W K B Z n0 h ck cs pc L S) {i : Int} {v : Int32} (hd : decode B.bytes pc = .ok (.iconst i, 1)) (hv : Int32.ofInt i = v) : own_W K B Z n0 h ck cs (pc + 1) L (.int v :: S) := by
  subst hv; exact own_step w fun X hx _ _ hby _ tg kt => XS.iconst X.here hx rfl (hb hby hd) kt
theorem own_bipush (w : own_W K B Z n0 h ck cs pc L S) {i : Int} {v : Int32} (hd : decode B.bytes pc = .ok (.bipush i, 2)) (hv : (Int8.ofInt i).toInt32 = v) : own_W K B Z n0 h ck cs (pc + 2) L (.int v :: S) := by
  subst hv; exact own_step w fun X hx _ _ hby _ tg kt => XS.bipush X.here hx rfl (hb hby hd) kt
theorem own_sipush (w : own_W K B Z n0 h ck cs pc L S) {i : Int} {v : Int32} (hd : decode B.bytes pc = .ok (.sipush i, 3)) (hv : (Int16.ofInt i).toInt32 = v) : own_W K B Z n0 h ck cs (pc + 3) L (.int v :: S) := by
  subst hv; exact own_step w fun X hx _ _ hby _ tg kt => XS.sipush X.here hx rfl (hb hby hd) kt
theorem own_lconst (w : own_W K B Z n0 h ck cs pc L S) {k : Fin 2} {v : Int64} (hd : decode B.bytes pc = .ok (.lconst k, 1)) (hv : Int64.ofNat k = v) : own_W K B Z n0 h ck cs (pc + 1) L (.long v :: S) := by
  subst hv; exact own_step w fun X hx _ _ hby _ tg kt => XS.lconst X.here hx rfl (hb hby hd) kt
theorem own_ldc (w : own_W K B Z n0 h ck cs pc L S) {i : Nat} {v : Int32} (hd : decode B.bytes pc = .ok (.ldc i, 2)) (wc : (Jvm.Cond.constant B.y.cls i v).before a0 Z = true) : own_W K B Z n0 h ck cs (pc + 2) L (.int v :: S) :=
  own_step w fun X hx hZ hown hby _ tg kt => X.ldcInt (g := mkF _ pc L S) hx hown (mv hZ wc) rfl (hb hby hd) tg kt
theorem own_ldc2 (w : own_W K B Z n0 h ck cs pc L S) {i : Nat} {v : Int64} (hd : decode B.bytes pc = .ok (.ldc2_w i, 3)) (wc : (Jvm.Cond.constantLong B.y.cls i v).before a0 Z = true) : own_W K B Z n0 h ck cs (pc + 3) L (.long v :: S) :=
  own_step w fun X hx hZ hown hby _ tg kt => X.ldc2Long (g := mkF _ pc L S) hx hown (mv hZ wc) rfl (hb hby hd) tg kt
theorem own_dup {x : Value} (w : own_W K B Z n0 h ck cs pc L (x :: S)) (hd : decode B.bytes pc = .ok (.dup, 1)) (hc : x.category = 1) : own_W K B Z n0 h ck cs (pc + 1) L (x :: x :: S) :=
  own_step w fun X hx _ _ hby _ tg kt => XS.dup X.here hx rfl (hb hby hd) rfl hc kt
theorem own_istoreN {x : Int32} {L' : Array Slot} (w : own_W K B Z n0 h ck cs pc L (.int x :: S)) {k : Fin 4} (hd : decode B.bytes pc = .ok (.istore_n k, 1)) (hl : storeLocals L k.val (.int x) = some L') : own_W K B Z n0 h ck cs (pc + 1) L' S :=
  own_step w fun X hx _ _ hby _ tg kt => XS.istoreN X.here hx rfl (hb hby hd) rfl hl kt
theorem own_istore {x : Int32} {L' : Array Slot} (w : own_W K B Z n0 h ck cs pc L (.int x :: S)) {k : Nat} (hd : decode B.bytes pc = .ok (.istore k, 2)) (hl : storeLocals L k (.int x) = some L') : own_W K B Z n0 h ck cs (pc + 2) L' S :=
  own_step w fun X hx _ _ hby _ tg kt => XS.istore X.here hx rfl (hb hby hd) rfl hl kt
theorem own_lstoreN {x : Int64} {L' : Array Slot} (w : own_W K B Z n0 h ck cs pc L (.long x :: S)) {k : Fin 4} (hd : decode B.bytes pc = .ok (.lstore_n k, 1)) (hl : storeLocals L k.val (.long x) = some L') : own_W K B Z n0 h ck cs (pc + 1) L' S :=
  own_step w fun X hx _ _ hby _ tg kt => XS.lstoreN X.here hx rfl (hb hby hd) rfl hl kt
theorem own_lstore {x : Int64} {L' : Array Slot} (w : own_W K B Z n0 h ck cs pc L (.long x :: S)) {k : Nat} (hd : decode B.bytes pc = .ok (.lstore k, 2)) (hl : storeLocals L k (.long x) = some L') : own_W K B Z n0 h ck cs (pc + 2) L' S :=
  own_step w fun X hx _ _ hby _ tg kt => XS.lstore X.here hx rfl (hb hby hd) rfl hl kt
theorem own_astoreN {a : Addr} {L' : Array Slot} (w : own_W K B Z n0 h ck cs pc L (.ref a :: S)) {k : Fin 4} (hd : decode B.bytes pc = .ok (.astore_n k, 1)) (hl : storeLocals L k.val (.ref a) = some L') : own_W K B Z n0 h ck cs (pc + 1) L' S :=
  own_step w fun X hx _ _ hby _ tg kt => XS.astoreN X.here hx rfl (hb hby hd) rfl rfl hl kt
theorem own_astore {a : Addr} {L' : Array Slot} (w : own_W K B Z n0 h ck cs pc L (.ref a :: S)) {k : Nat} (hd : decode B.bytes pc = .ok (.astore k, 2)) (hl : storeLocals L k (.ref a) = some L') : own_W K B Z n0 h ck cs (pc + 2) L' S :=
  own_step w fun X hx _ _ hby _ tg kt => XS.astore X.here hx rfl (hb hby hd) rfl rfl hl kt
theorem own_iinc {x v : Int32} {L' : Array Slot} (w : own_W K B Z n0 h ck cs pc L S) {k : Nat} {c : Int} (hd : decode B.bytes pc = .ok (.iinc k c, 3)) (hl : L[k]? = some (.val (.int x))) (hv : Int32.ofInt c = v) (hl' : storeLocals L k (.int (x + v)) = some L') : own_W K B Z n0 h ck cs (pc + 3) L' S := by
  subst hv; exact own_step w fun X hx _ _ hby _ tg kt => XS.iinc X.here hx rfl (hb hby hd) hl hl' kt
theorem own_goto (w : own_W K B Z n0 h ck cs pc L S) {o : Int} {pc' : Nat} (hd : decode B.bytes pc = .ok (.goto o, 3)) (ho : 0 ≤ (pc : Int) + o) (hp : ((pc : Int) + o).toNat = pc') : own_W K B Z n0 h ck cs pc' L S :=
  own_step w fun X hx _ _ hby _ tg kt => XS.goto X.here hx rfl (pc0 := pc) rfl (hb hby hd) ho hp kt
theorem own_iadd {x : Int32} {y : Int32} (w : own_W K B Z n0 h ck cs pc L (.int y :: .int x :: S)) (hd : decode B.bytes pc = .ok (.iadd, 1)) : own_W K B Z n0 h ck cs (pc + 1) L (.int (x + y) :: S) :=
  own_step w fun X hx _ _ hby _ tg kt => XS.iadd X.here hx rfl (hb hby hd) rfl kt
theorem own_isub {x : Int32} {y : Int32} (w : own_W K B Z n0 h ck cs pc L (.int y :: .int x :: S)) (hd : decode B.bytes pc = .ok (.isub, 1)) : own_W K B Z n0 h ck cs (pc + 1) L (.int (x - y) :: S) :=
  own_step w fun X hx _ _ hby _ tg kt => XS.isub X.here hx rfl (hb hby hd) rfl kt
theorem own_imul {x : Int32} {y : Int32} (w : own_W K B Z n0 h ck cs pc L (.int y :: .int x :: S)) (hd : decode B.bytes pc = .ok (.imul, 1)) : own_W K B Z n0 h ck cs (pc + 1) L (.int (x * y) :: S) :=
  own_step w fun X hx _ _ hby _ tg kt => XS.imul X.here hx rfl (hb hby hd) rfl kt
theorem own_iand {x : Int32} {y : Int32} (w : own_W K B Z n0 h ck cs pc L (.int y :: .int x :: S)) (hd : decode B.bytes pc = .ok (.iand, 1)) : own_W K B Z n0 h ck cs (pc + 1) L (.int (x &&& y) :: S) :=
  own_step w fun X hx _ _ hby _ tg kt => XS.iand X.here hx rfl (hb hby hd) rfl kt
theorem own_ior {x : Int32} {y : Int32} (w : own_W K B Z n0 h ck cs pc L (.int y :: .int x :: S)) (hd : decode B.bytes pc = .ok (.ior, 1)) : own_W K B Z n0 h ck cs (pc + 1) L (.int (x ||| y) :: S) :=
  own_step w fun X hx _ _ hby _ tg kt => XS.ior X.here hx rfl (hb hby hd) rfl kt
theorem own_ixor {x : Int32} {y : Int32} (w : own_W K B Z n0 h ck cs pc L (.int y :: .int x :: S)) (hd : decode B.bytes pc = .ok (.ixor, 1)) : own_W K B Z n0 h ck cs (pc + 1) L (.int (x ^^^ y) :: S) :=
  own_step w fun X hx _ _ hby _ tg kt => XS.ixor X.here hx rfl (hb hby hd) rfl kt
theorem own_ishl {x : Int32} {y : Int32} (w : own_W K B Z n0 h ck cs pc L (.int y :: .int x :: S)) (hd : decode B.bytes pc = .ok (.ishl, 1)) : own_W K B Z n0 h ck cs (pc + 1) L (.int (x <<< (y &&& 31)) :: S) :=
  own_step w fun X hx _ _ hby _ tg kt => XS.ishl X.here hx rfl (hb hby hd) rfl kt
theorem own_iushr {x : Int32} {y : Int32} (w : own_W K B Z n0 h ck cs pc L (.int y :: .int x :: S)) (hd : decode B.bytes pc = .ok (.iushr, 1)) : own_W K B Z n0 h ck cs (pc + 1) L (.int (XT.ushr x y) :: S) :=
  own_step w fun X hx _ _ hby _ tg kt => XS.iushr X.here hx rfl (hb hby hd) rfl kt
theorem own_irem {x : Int32} {y : Int32} (w : own_W K B Z n0 h ck cs pc L (.int y :: .int x :: S)) (hd : decode B.bytes pc = .ok (.irem, 1)) (hy : y ≠ 0) : own_W K B Z n0 h ck cs (pc + 1) L (.int (x % y) :: S) :=
  own_step w fun X hx _ _ hby _ tg kt => iremM X hx rfl (hb hby hd) rfl hy kt
theorem own_ladd {x : Int64} {y : Int64} (w : own_W K B Z n0 h ck cs pc L (.long y :: .long x :: S)) (hd : decode B.bytes pc = .ok (.ladd, 1)) : own_W K B Z n0 h ck cs (pc + 1) L (.long (x + y) :: S) :=
  own_step w fun X hx _ _ hby _ tg kt => XS.ladd X.here hx rfl (hb hby hd) rfl kt
theorem own_lsub {x : Int64} {y : Int64} (w : own_W K B Z n0 h ck cs pc L (.long y :: .long x :: S)) (hd : decode B.bytes pc = .ok (.lsub, 1)) : own_W K B Z n0 h ck cs (pc + 1) L (.long (x - y) :: S) :=
  own_step w fun X hx _ _ hby _ tg kt => XS.lsub X.here hx rfl (hb hby hd) rfl kt
theorem own_land {x : Int64} {y : Int64} (w : own_W K B Z n0 h ck cs pc L (.long y :: .long x :: S)) (hd : decode B.bytes pc = .ok (.land, 1)) : own_W K B Z n0 h ck cs (pc + 1) L (.long (x &&& y) :: S) :=
  own_step w fun X hx _ _ hby _ tg kt => XS.land X.here hx rfl (hb hby hd) rfl kt
theorem own_lrem {x : Int64} {y : Int64} (w : own_W K B Z n0 h ck cs pc L (.long y :: .long x :: S)) (hd : decode B.bytes pc = .ok (.lrem, 1)) (hy : y ≠ 0) : own_W K B Z n0 h ck cs (pc + 1) L (.long (x - (x / y) * y) :: S) :=
  own_step w fun X hx _ _ hby _ tg kt => XS.lrem X.here hx rfl (hb hby hd) rfl hy kt
theorem own_lushr {x : Int64} {y : Int32} (w : own_W K B Z n0 h ck cs pc L (.int y :: .long x :: S)) (hd : decode B.bytes pc = .ok (.lushr, 1)) : own_W K B Z n0 h ck cs (pc + 1) L (.long (XT.ushrL x y) :: S) :=
  own_step w fun X hx _ _ hby _ tg kt => XT.lushr X.here hx rfl (hb hby hd) rfl kt
theorem own_i2l {x : Int32} (w : own_W K B Z n0 h ck cs pc L (.int x :: S)) (hd : decode B.bytes pc = .ok (.i2l, 1)) : own_W K B Z n0 h ck cs (pc + 1) L (.long (x.toInt64) :: S) :=
  own_step w fun X hx _ _ hby _ tg kt => XS.i2l X.here hx rfl (hb hby hd) rfl kt
theorem own_l2i {x : Int64} (w : own_W K B Z n0 h ck cs pc L (.long x :: S)) (hd : decode B.bytes pc = .ok (.l2i, 1)) : own_W K B Z n0 h ck cs (pc + 1) L (.int (x.toInt32) :: S) :=
  own_step w fun X hx _ _ hby _ tg kt => XS.l2i X.here hx rfl (hb hby hd) rfl kt
theorem own_i2b {x : Int32} (w : own_W K B Z n0 h ck cs pc L (.int x :: S)) (hd : decode B.bytes pc = .ok (.i2b, 1)) : own_W K B Z n0 h ck cs (pc + 1) L (.int (x.toInt8.toInt32) :: S) :=
  own_step w fun X hx _ _ hby _ tg kt => XS.i2b X.here hx rfl (hb hby hd) rfl kt
theorem own_i2c {x : Int32} (w : own_W K B Z n0 h ck cs pc L (.int x :: S)) (hd : decode B.bytes pc = .ok (.i2c, 1)) : own_W K B Z n0 h ck cs (pc + 1) L (.int (x.toUInt32.toUInt16.toUInt32.toInt32) :: S) :=
  own_step w fun X hx _ _ hby _ tg kt => XS.i2c X.here hx rfl (hb hby hd) rfl kt
/-- what a comparison asks of two Ints, and its contrary -/
def own_cd : ClassFile.Cond → Int → Int → Prop
  | .eq, a, b => a = b
  | .ne, a, b => ¬ a = b
  | .lt, a, b => a < b
  | .ge, a, b => ¬ a < b
  | .gt, a, b => b < a
  | .le, a, b => ¬ b < a
def own_cn : ClassFile.Cond → Int → Int → Prop
  | .eq, a, b => ¬ a = b
  | .ne, a, b => a = b
  | .lt, a, b => ¬ a < b
  | .ge, a, b => a < b
  | .gt, a, b => ¬ b < a
  | .le, a, b => b < a
theorem own_yes {x y : Int32} {a b : Int} {cd : ClassFile.Cond} (hx : x.toInt = a) (hy : y.toInt = b) (hc : own_cd cd a b) : if_icmp.holds cd x y = true := by
  subst hx hy
  cases cd with
  | eq => exact (teq (Int32.toInt_inj.mp hc)).1
  | ne => exact (feq (fun q => hc (congrArg _ q))).2
  | lt => exact (tlt (Int32.lt_iff_toInt_lt.mpr hc)).1
  | ge => exact (flt (fun q => hc (Int32.lt_iff_toInt_lt.mp q))).2.1
  | gt => exact (tlt (Int32.lt_iff_toInt_lt.mpr hc)).2.2.1
  | le => exact (flt (fun q => hc (Int32.lt_iff_toInt_lt.mp q))).2.2.2
theorem own_no {x y : Int32} {a b : Int} {cd : ClassFile.Cond} (hx : x.toInt = a) (hy : y.toInt = b) (hc : own_cn cd a b) : if_icmp.holds cd x y = false := by
  subst hx hy
  cases cd with
  | eq => exact (feq (fun q => hc (congrArg _ q))).1
  | ne => exact (teq (Int32.toInt_inj.mp hc)).2
  | lt => exact (flt (fun q => hc (Int32.lt_iff_toInt_lt.mp q))).1
  | ge => exact (tlt (Int32.lt_iff_toInt_lt.mpr hc)).2.1
  | gt => exact (flt (fun q => hc (Int32.lt_iff_toInt_lt.mp q))).2.2.1
  | le => exact (tlt (Int32.lt_iff_toInt_lt.mpr hc)).2.2.2
theorem own_icmpY {x y : Int32} (w : own_W K B Z n0 h ck cs pc L (.int y :: .int x :: S)) {cd : ClassFile.Cond} {o : Int} {pc' : Nat} (hd : decode B.bytes pc = .ok (.if_icmp cd o, 3)) {a b : Int} (hx : x.toInt = a) (hy : y.toInt = b) (hc : own_cd cd a b) (ho : 0 ≤ (pc : Int) + o) (hp : ((pc : Int) + o).toNat = pc') : own_W K B Z n0 h ck cs pc' L S :=
  own_step w fun X hx' _ _ hby _ tg kt => XS.icmpYes X.here hx' rfl (pc0 := pc) rfl (hb hby hd) rfl (own_yes hx hy hc) ho hp kt
theorem own_icmpN {x y : Int32} (w : own_W K B Z n0 h ck cs pc L (.int y :: .int x :: S)) {cd : ClassFile.Cond} {o : Int} (hd : decode B.bytes pc = .ok (.if_icmp cd o, 3)) {a b : Int} (hx : x.toInt = a) (hy : y.toInt = b) (hc : own_cn cd a b) : own_W K B Z n0 h ck cs (pc + 3) L S :=
  own_step w fun X hx' _ _ hby _ tg kt => XS.icmpNo X.here hx' rfl (hb hby hd) rfl (own_no hx hy hc) kt
theorem own_ifY {x : Int32} (w : own_W K B Z n0 h ck cs pc L (.int x :: S)) {cd : ClassFile.Cond} {o : Int} {pc' : Nat} (hd : decode B.bytes pc = .ok (.ifCond cd o, 3)) {a : Int} (hx : x.toInt = a) (hc : own_cd cd a 0) (ho : 0 ≤ (pc : Int) + o) (hp : ((pc : Int) + o).toNat = pc') : own_W K B Z n0 h ck cs pc' L S :=
  own_step w fun X hx' _ _ hby _ tg kt => XS.ifYes X.here hx' rfl (pc0 := pc) rfl (hb hby hd) rfl ((if0 _ _).trans (own_yes (y := 0) hx rfl hc)) ho hp kt
theorem own_ifN {x : Int32} (w : own_W K B Z n0 h ck cs pc L (.int x :: S)) {cd : ClassFile.Cond} {o : Int} (hd : decode B.bytes pc = .ok (.ifCond cd o, 3)) {a : Int} (hx : x.toInt = a) (hc : own_cn cd a 0) : own_W K B Z n0 h ck cs (pc + 3) L S :=
  own_step w fun X hx' _ _ hby _ tg kt => XS.ifNo X.here hx' rfl (hb hby hd) rfl ((if0 _ _).trans (own_no (y := 0) hx rfl hc)) kt
theorem own_end {v : Option Value} {Q : Option Value → Heap → Prop} {gk gs : Nat} (w : own_W K B Z n0 h ck cs pc L S) (hv : B.ret = none → v = none) (hQ : Q v h) (hk : ck ≤ gk) (hs : cs ≤ gs)
    (st : ∀ {p : Program} {l : Launch} {e : Env} {s : State} {m : MethodId} {args : Array Value} {below : List Frame} {meth : Method} {c : Code} {T : State} {locs : List Loc} {fs : List Frame}, Stand p l e B.rm s m args below meth c T locs ck cs → p.tables.exec = Jvm.exec → meth.sig.returnType = B.ret → c.code = B.bytes →
      (∀ (f : JFrame) (acts : List Action), f.method = m → f.locked = none → f.entered = [] → (doReturn e (T.setTop f) acts v).1 = T.setFrames fs) → Steps p.tables e below (T.setTop (mkF m pc L S)) (T.setFrames fs)) : own_G K n0 gk gs Q := by
  obtain ⟨p, l, e, s, m, args, below, meth, c, start⟩ := K
  obtain ⟨hx, hZ, hown, hnm, hby, hml, hret, hlk, hn, T, locs, X, eT, N, pre⟩ := w
  obtain ⟨fs, hr, hrun, hended, hW, hsame⟩ := X.leave (v := v) (fun q => hv (hret.symm.trans q)) hlk
  refine ⟨_, _, pre _ (st X hx hret hby hr), hrun, hended, v, locs, rfl, ⟨?_, N, ?_⟩, ⟨_, rfl⟩, hW, hsame.mono hk hs⟩
  · show Q v T.heap
    rw [eT]; exact hQ
  · show n0 ≤ T.heap.size
    rw [eT]; exact hn
theorem own_retZ {z : Int32} {t : FieldType} {Q : Option Value → Heap → Prop} {gk gs : Nat} (w : own_W K B Z n0 h ck cs pc L (.int z :: S)) (hd : decode B.bytes pc = .ok (.ireturn, 1)) (hret : B.ret = some t) (ht : t = .boolean ∨ t = .byte ∨ t = .char ∨ t = .short) (hQ : Q (some (.int (nar t z))) h) (hk : ck ≤ gk) (hs : cs ≤ gs) : own_G K n0 gk gs Q :=
  own_end w (fun q => by rw [hret] at q; cases q) hQ hk hs fun X hx hr hby hl => retN X hx (hr.trans hret) ht (hb hby hd) hl
theorem own_retI {z : Int32} {Q : Option Value → Heap → Prop} {gk gs : Nat} (w : own_W K B Z n0 h ck cs pc L (.int z :: S)) (hd : decode B.bytes pc = .ok (.ireturn, 1)) (hret : B.ret = some .int) (hQ : Q (some (.int z)) h) (hk : ck ≤ gk) (hs : cs ≤ gs) : own_G K n0 gk gs Q :=
  own_end w (fun q => by rw [hret] at q; cases q) hQ hk hs fun X hx hr hby hl => retI X hx (hr.trans hret) (hb hby hd) hl
theorem own_retV {Q : Option Value → Heap → Prop} {gk gs : Nat} (w : own_W K B Z n0 h ck cs pc L []) (hd : decode B.bytes pc = .ok (.return_, 1)) (hret : B.ret = none) (hQ : Q none h) (hk : ck ≤ gk) (hs : cs ≤ gs) : own_G K n0 gk gs Q :=
  own_end w (fun _ => rfl) hQ hk hs fun X hx hr hby hl => X.returnOut hx (hr.trans hret) (hb hby hd) hl
theorem own_wk {Q Q' : Option Value → Heap → Prop} {gk gs : Nat} (g : own_G K n0 gk gs Q) (q : ∀ v h', Q v h' → Q' v h') : own_G K n0 gk gs Q' := by
  obtain ⟨p, l, e, s, m, args, below, meth, c, start⟩ := K
  obtain ⟨s₂, o, h1, h2, h3, v, L, h4, ⟨h5, h6⟩, h7⟩ := g
  exact ⟨s₂, o, h1, h2, h3, v, L, h4, ⟨q _ _ h5, h6⟩, h7⟩
/-- a static call, by the callee's contract -/
theorem own_callS {By : OwnB} {idx : Nat} {stk rest : List Value} {ps : List FieldType} {r : Option FieldType} {Q : Option Value → Heap → Prop} (as : List Value) (w : own_W K B Z n0 h ck cs pc L stk) (hS : stk = as.reverse ++ rest) (hd : decode B.bytes pc = .ok (.invokestatic idx, 3))
    (w1 : (Jvm.Cond.methodLink B.y.cls idx By.y).before a0 Z = true) (w2 : (Jvm.Cond.static By.y).before a0 Z = true) (w3 : (Jvm.Cond.initialized By.y.cls).before a0 Z = true) (w4 : (Jvm.Cond.code By.y By.bytes By.ml By.ret).before a0 Z = true)
    (hM : ∀ l, own_M l Z n0 By as.toArray h Q) (hy : By.y.cls ≠ "java/lang/invoke/MethodHandle" ∧ By.y.cls ≠ "java/lang/invoke/VarHandle") (hp : parseMethodDescriptor By.y.desc = some ⟨ps, r⟩) (hl : as.length = ps.length) (hsz : L.size = B.ml)
    (hf : By.rm.frames + 1 ≤ B.rm.frames) (hlo : (rest.map fun v => v.category).sum + (By.ml + 11) + By.rm.locals ≤ B.rm.locals) (hc : ck + By.rm.cells ≤ B.rm.cells) (hs : cs + By.rm.slots ≤ B.rm.slots) :
    ∃ v h', Q v h' ∧ own_W K B Z n0 h' (ck + By.rm.cells) (cs + By.rm.slots) (pc + 3) L (v.toList ++ rest) := by
  obtain ⟨p, l, e, s, m, args, below, meth, c, start⟩ := K
  obtain ⟨hx, hZ, hown, hnm, hby, hml, hret, hlk, hn, T, locs, X, eT, N, pre⟩ := w
  obtain ⟨v, _, ⟨T', L', k', n'⟩, -, X', ⟨Lc, hQ, l', y', z'⟩, st⟩ := Jvm.LawKit.callS X hx (y := By.y) hown (mvT hZ w1) (mvT hZ w2) (mvT hZ w3) (mvT hZ w4) hy (backOf (W := (rest.map fun v => v.category).sum) (Q := fun v h' L => Q v h' ∧ Fr n0 L ∧ n0 ≤ h'.size) (hM l []) hZ w4 w3 hf hlo) (g := mkF m pc L stk) rfl (by rw [hml]; exact hsz) (argsL := as) (rest := rest) (lenOf hp hl) hS (by show 2 * 0 + _ ≤ _; exact Nat.le_of_eq (by simp)) (hb hby hd) (fun _ _ => ⟨rfl, eT, hc, hs⟩)
  dsimp only [Pt.U, Pt.locs, Pt.cells, Pt.slots] at X' l' y' z' st hQ
  subst l' y' z'
  exact ⟨v, T'.heap, hQ.1, hx, hZ, hown, hnm, hby, hml, hret, hlk, hQ.2.2, T', _, X', rfl, N.app hQ.2.1, fun tg k => pre tg (st tg k)⟩
/-- a constructor, by its contract -/
theorem own_callI {By : OwnB} {idx : Nat} {stk rest : List Value} {ps : List FieldType} {r : Option FieldType} {Q : Option Value → Heap → Prop} (a : Addr) (as : List Value) (w : own_W K B Z n0 h ck cs pc L stk) (hS : stk = as.reverse ++ .ref a :: rest) (hd : decode B.bytes pc = .ok (.invokespecial idx, 3)) (hni : By.y.name = "<init>") (hnr : By.ret = none)
    (w1 : (Jvm.Cond.methodLink B.y.cls idx By.y).before a0 Z = true) (w2 : (Jvm.Cond.instanceMethod By.y).before a0 Z = true) (w3 : (Jvm.Cond.initialized By.y.cls).before a0 Z = true) (w4 : (Jvm.Cond.code By.y By.bytes By.ml By.ret).before a0 Z = true)
    (hM : ∀ l, own_M l Z n0 By (.ref a :: as).toArray h Q) (hy : By.y.cls ≠ "java/lang/invoke/MethodHandle" ∧ By.y.cls ≠ "java/lang/invoke/VarHandle") (hp : parseMethodDescriptor By.y.desc = some ⟨ps, r⟩) (hl : as.length = ps.length) (hsz : L.size = B.ml)
    (hf : By.rm.frames + 1 ≤ B.rm.frames) (hlo : (rest.map fun v => v.category).sum + (By.ml + 11) + By.rm.locals ≤ B.rm.locals) (hc : ck + By.rm.cells ≤ B.rm.cells) (hs : cs + By.rm.slots ≤ B.rm.slots) :
    ∃ v h', Q v h' ∧ own_W K B Z n0 h' (ck + By.rm.cells) (cs + By.rm.slots) (pc + 3) L (v.toList ++ rest) := by
  obtain ⟨p, l, e, s, m, args, below, meth, c, start⟩ := K
  obtain ⟨hx, hZ, hown, hnm, hby, hml, hret, hlk, hn, T, locs, X, eT, N, pre⟩ := w
  obtain ⟨v, _, ⟨T', L', k', n'⟩, -, X', ⟨Lc, hQ, l', y', z'⟩, st⟩ := X.specialBack hx (y := By.y) hni hown (mvT hZ w1) (mvT hZ w2) (mvT hZ (hnr ▸ w4)) hy (backOf (W := (rest.map fun v => v.category).sum) (Q := fun v h' L => Q v h' ∧ Fr n0 L ∧ n0 ≤ h'.size) (hM l []) hZ w4 w3 hf hlo) (g := mkF m pc L stk) rfl (by rw [hml]; exact hsz) (Steps.refl _) (a := a) (argsL := as) (rest := rest) (lenOf hp hl) hS (by show 2 * 0 + _ ≤ _; exact Nat.le_of_eq (by simp)) (hb hby hd) (fun _ _ => ⟨rfl, eT, hc, hs⟩)
  dsimp only [Pt.U, Pt.locs, Pt.cells, Pt.slots] at X' l' y' z' st hQ
  subst l' y' z'
  exact ⟨v, T'.heap, hQ.1, hx, hZ, hown, hnm, hby, hml, hret, hlk, hQ.2.2, T', _, X', rfl, N.app hQ.2.1, fun tg k => pre tg (st.trans k)⟩
/-- a nest mate's constructor, by its contract -/
theorem own_callN {By : OwnB} {host : String} {idx : Nat} {stk rest : List Value} {ps : List FieldType} {r : Option FieldType} {Q : Option Value → Heap → Prop} (a : Addr) (as : List Value) (w : own_W K B Z n0 h ck cs pc L stk) (hS : stk = as.reverse ++ .ref a :: rest) (hd : decode B.bytes pc = .ok (.invokespecial idx, 3)) (hni : By.y.name = "<init>") (hnr : By.ret = none)
    (w1 : (Jvm.Cond.methodLinkNest B.y.cls idx By.y host).before a0 Z = true) (w2 : (Jvm.Cond.instanceMethod By.y).before a0 Z = true) (w3 : (Jvm.Cond.initialized By.y.cls).before a0 Z = true) (w4 : (Jvm.Cond.code By.y By.bytes By.ml By.ret).before a0 Z = true)
    (hM : ∀ l, own_M l Z n0 By (.ref a :: as).toArray h Q) (hy : By.y.cls ≠ "java/lang/invoke/MethodHandle" ∧ By.y.cls ≠ "java/lang/invoke/VarHandle") (hp : parseMethodDescriptor By.y.desc = some ⟨ps, r⟩) (hl : as.length = ps.length) (hsz : L.size = B.ml)
    (hf : By.rm.frames + 1 ≤ B.rm.frames) (hlo : (rest.map fun v => v.category).sum + (By.ml + 11) + By.rm.locals ≤ B.rm.locals) (hc : ck + By.rm.cells ≤ B.rm.cells) (hs : cs + By.rm.slots ≤ B.rm.slots) :
    ∃ v h', Q v h' ∧ own_W K B Z n0 h' (ck + By.rm.cells) (cs + By.rm.slots) (pc + 3) L (v.toList ++ rest) := by
  obtain ⟨p, l, e, s, m, args, below, meth, c, start⟩ := K
  obtain ⟨hx, hZ, hown, hnm, hby, hml, hret, hlk, hn, T, locs, X, eT, N, pre⟩ := w
  obtain ⟨v, _, ⟨T', L', k', n'⟩, -, X', ⟨Lc, hQ, l', y', z'⟩, st⟩ := X.specialBackNest hx (y := By.y) (host := host) hni hown (Cond.methodLinkNest_wide hZ w1 :) (mvT hZ w2) (mvT hZ (hnr ▸ w4)) hy (backOf (W := (rest.map fun v => v.category).sum) (Q := fun v h' L => Q v h' ∧ Fr n0 L ∧ n0 ≤ h'.size) (hM l []) hZ w4 w3 hf hlo) (g := mkF m pc L stk) rfl (by rw [hml]; exact hsz) (Steps.refl _) (a := a) (argsL := as) (rest := rest) (lenOf hp hl) hS (by show 2 * 0 + _ ≤ _; exact Nat.le_of_eq (by simp)) (hb hby hd) (fun _ _ => ⟨rfl, eT, hc, hs⟩)
  dsimp only [Pt.U, Pt.locs, Pt.cells, Pt.slots] at X' l' y' z' st hQ
  subst l' y' z'
  exact ⟨v, T'.heap, hQ.1, hx, hZ, hown, hnm, hby, hml, hret, hlk, hQ.2.2, T', _, X', rfl, N.app hQ.2.1, fun tg k => pre tg (st.trans k)⟩
/-- an instance method of the object's own class, by its contract -/
theorem own_callV {By : OwnB} {idx : Nat} {stk rest : List Value} {ps : List FieldType} {r : Option FieldType} {Q : Option Value → Heap → Prop} (a : Addr) (as : List Value) (w : own_W K B Z n0 h ck cs pc L stk) (hS : stk = as.reverse ++ .ref a :: rest) (hd : decode B.bytes pc = .ok (.invokevirtual idx, 3)) (E : Exa Z h a By.y.cls)
    (w1 : (Jvm.Cond.methodLink B.y.cls idx By.y).before a0 Z = true) (wd : (Jvm.Cond.declares By.y).before a0 Z = true) (w2 : (Jvm.Cond.instanceMethod By.y).before a0 Z = true) (wsel : (Jvm.Cond.selects By.y.cls By.y By.y).before a0 Z = true) (w3 : (Jvm.Cond.initialized By.y.cls).before a0 Z = true) (w4 : (Jvm.Cond.code By.y By.bytes By.ml By.ret).before a0 Z = true)
    (hM : ∀ l, own_M l Z n0 By (.ref a :: as).toArray h Q) (hy : By.y.cls ≠ "java/lang/invoke/MethodHandle" ∧ By.y.cls ≠ "java/lang/invoke/VarHandle") (hp : parseMethodDescriptor By.y.desc = some ⟨ps, r⟩) (hl : as.length = ps.length) (hsz : L.size = B.ml)
    (hf : By.rm.frames + 1 ≤ B.rm.frames) (hlo : (rest.map fun v => v.category).sum + (By.ml + 11) + By.rm.locals ≤ B.rm.locals) (hc : ck + By.rm.cells ≤ B.rm.cells) (hs : cs + By.rm.slots ≤ B.rm.slots) :
    ∃ v h', Q v h' ∧ own_W K B Z n0 h' (ck + By.rm.cells) (cs + By.rm.slots) (pc + 3) L (v.toList ++ rest) := by
  obtain ⟨p, l, e, s, m, args, below, meth, c, start⟩ := K
  obtain ⟨hx, hZ, hown, hnm, hby, hml, hret, hlk, hn, T, locs, X, eT, N, pre⟩ := w
  obtain ⟨cq, kq, q1, q2, q3⟩ := isOf hZ eT E
  obtain ⟨v, _, ⟨T', L', k', n'⟩, -, X', ⟨Lc, hQ, l', y', z'⟩, st⟩ := X.virtualBack hx (y := By.y) (z := By.y) hown (mvT hZ w1) (mvT hZ wd) (notFace_of_selects (args := #[]) (mvT hZ wsel)) (mvT hZ wsel) (mvT hZ w2) hy (backOf (W := (rest.map fun v => v.category).sum) (Q := fun v h' L => Q v h' ∧ Fr n0 L ∧ n0 ≤ h'.size) (hM l []) hZ w4 w3 hf hlo) q1 q3 (g := mkF m pc L stk) rfl (by rw [hml]; exact hsz) (Steps.refl _) (argsL := as) (rest := rest) (lenOf hp hl) hS (by show 2 * 0 + _ ≤ _; exact Nat.le_of_eq (by simp)) (hb hby hd) (fun _ _ => ⟨rfl, eT, hc, hs⟩)
  dsimp only [Pt.U, Pt.locs, Pt.cells, Pt.slots] at X' l' y' z' st hQ
  subst l' y' z'
  exact ⟨v, T'.heap, hQ.1, hx, hZ, hown, hnm, hby, hml, hret, hlk, hQ.2.2, T', _, X', rfl, N.app hQ.2.1, fun tg k => pre tg (st.trans k)⟩
/-- Object.<init> -/
theorem own_initO {a : Addr} {idx : Nat} (w : own_W K B Z n0 h ck cs pc L (.ref a :: S)) (hd : decode B.bytes pc = .ok (.invokespecial idx, 3)) (w1 : (Jvm.Cond.methodLink B.y.cls idx Lib.objectInit).before a0 Z = true) (w2 : (Jvm.Cond.instanceMethod Lib.objectInit).before a0 Z = true)
    (w3 : (Jvm.Cond.code Lib.objectInit ⟨#[0xb1]⟩ 1 none).before a0 Z = true) (hsz : L.size = B.ml) (hf : 1 ≤ B.rm.frames) (hlo : (S.map fun v => v.category).sum + 12 ≤ B.rm.locals) : own_W K B Z n0 h ck cs (pc + 3) L S := by
  obtain ⟨p, l, e, s, m, args, below, meth, c, start⟩ := K
  obtain ⟨hx, hZ, hown, hnm, hby, hml, hret, hlk, hn, T, locs, X, eT, N, pre⟩ := w
  obtain ⟨T', X', e', st⟩ := initO X hx hZ hown w1 w2 w3 eT (g := mkF m pc L (.ref a :: S)) rfl (by rw [hml]; exact hsz) rfl (hb hby hd) hf (W := (S.map fun v => v.category).sum) (by show 2 * 0 + _ ≤ _; exact Nat.le_of_eq (by simp)) hlo
  exact ⟨hx, hZ, hown, hnm, hby, hml, hret, hlk, hn, T', locs, X', e', N, fun tg k => pre tg (st tg k)⟩
theorem own_getF {a : Addr} {idx : Nat} {O n d : String} {v : Value} (w : own_W K B Z n0 h ck cs pc L (.ref a :: S)) (hd : decode B.bytes pc = .ok (.getfield idx, 3)) (wl : (Jvm.Cond.fieldLink B.y.cls idx O n d).before a0 Z = true) (F : Fld Z h a O n d v) : own_W K B Z n0 h ck cs (pc + 3) L (v :: S) := by
  obtain ⟨p, l, e, s, m, args, below, meth, c, start⟩ := K
  obtain ⟨hx, hZ, hown, hnm, hby, hml, hret, hlk, hn, T, locs, X, eT, N, pre⟩ := w
  obtain ⟨T', X', e', st⟩ := getF X hx hZ hown (host := "") (Or.inl wl) Via.refl eT F (g := mkF m pc L (.ref a :: S)) rfl rfl (hb hby hd)
  exact ⟨hx, hZ, hown, hnm, hby, hml, hret, hlk, hn, T', locs, X', e', N, fun tg k => pre tg (st tg k)⟩
/-- putfield of a final field in a constructor of its class -/
theorem own_putF {a : Addr} {idx kk : Nat} {n d : String} {v old : Value} {ty : FieldType} (w : own_W K B Z n0 h ck cs pc L (v :: .ref a :: S)) (hd : decode B.bytes pc = .ok (.putfield idx, 3)) (wl : (Jvm.Cond.fieldLink B.y.cls idx B.y.cls n d).before a0 Z = true) (F : Fld Z h a B.y.cls n d old) (E : Exa Z h a B.y.cls)
    (wf : (Jvm.Cond.laysFinal B.y.cls B.y.cls n d).before a0 Z = true) (wi : (Jvm.Cond.instantiable B.y.cls kk).before a0 Z = true) (hni : B.y.name = "<init>") (hty : parseFieldDescriptor d = some ty) (hnr : narrow ty v = v) (hft : fits ty v = true) (ga : n0 ≤ a) :
    ∃ h', own_W K B Z n0 h' ck cs (pc + 3) L S ∧ Fld Z h' a B.y.cls n d v ∧ Keep h h' [a] := by
  obtain ⟨p, l, e, s, m, args, below, meth, c, start⟩ := K
  obtain ⟨hx, hZ, hown, hnm, hby, hml, hret, hlk, hn, T, locs, X, eT, N, pre⟩ := w
  obtain ⟨T', h', X', e', W', st⟩ := putF X hx hZ hown (host := "") (Or.inl wl) Via.refl eT F E (Or.inr ⟨wf, rfl, hnm.trans hni⟩) wi hty hnr hft (g := mkF m pc L (v :: .ref a :: S)) rfl rfl (hb hby hd)
  exact ⟨h', ⟨hx, hZ, hown, hnm, hby, hml, hret, hlk, by rw [W'.size]; exact hn, T', _, X', e', Fr.snoc X' N ga, fun tg k => pre tg (st tg k)⟩, F.same W', Keep.of_wr W'⟩
theorem own_newO {idx k : Nat} {C : String} (w : own_W K B Z n0 h ck cs pc L S) (hd : decode B.bytes pc = .ok (.new idx, 3)) (wl : (Jvm.Cond.classLink B.y.cls idx C).before a0 Z = true) (wi : (Jvm.Cond.instantiable C k).before a0 Z = true) (wz : (Jvm.Cond.initialized C).before a0 Z = true) (hc : ck + 1 ≤ B.rm.cells) (hs : cs + k ≤ B.rm.slots) :
    ∃ h' a, own_W K B Z n0 h' (ck + 1) (cs + k) (pc + 3) L (.ref a :: S) ∧ a = h.size ∧ n0 ≤ a ∧ Ext h h' ∧ Exa Z h' a C ∧ (∀ {O nm d : String} {ty : FieldType}, Laid Z a0 C O nm d → parseFieldDescriptor d = some ty → Fld Z h' a O nm d (defaultValue ty)) := by
  obtain ⟨p, l, e, s, m, args, below, meth, c, start⟩ := K
  obtain ⟨hx, hZ, hown, hnm, hby, hml, hret, hlk, hn, T, locs, X, eT, N, pre⟩ := w
  obtain ⟨T', h', X', e', E, A, D, -, st⟩ := newO X hx hZ hown wl wi wz eT (g := mkF m pc L S) rfl (hb hby hd) hc hs
  exact ⟨h', h.size, ⟨hx, hZ, hown, hnm, hby, hml, hret, hlk, Nat.le_trans hn E.1, T', _, X', e', N, fun tg k => pre tg (st tg k)⟩, rfl, hn, E, A, D⟩
/-- an array of ints, bytes or chars, and what it holds -/
def own_A (ty : FieldType) (Z : State) (h : Heap) (a : Addr) (l : List Int32) : Prop := ∃ c : Cell, Arr Z h a c ty ∧ c.slots.size = l.length ∧ l.length < 2 ^ 31 ∧ ∀ i, i < l.length → c.slots[i]? = some (.int (l.getD i 0))
def own_J (Z : State) (h : Heap) (a : Addr) (l : List Int64) : Prop := ∃ c : Cell, Arr Z h a c .long ∧ c.slots.size = l.length ∧ l.length < 2 ^ 31 ∧ ∀ i, i < l.length → c.slots[i]? = some (.long (l.getD i 0))
variable {ty : FieldType} {a b : Addr} {l : List Int32} {lj : List Int64} {h' : Heap}
theorem own_Alt (A : own_A ty Z h a l) : a < h.size := by obtain ⟨c, A, -⟩ := A; exact A.lt
theorem own_Jlt (A : own_J Z h a lj) : a < h.size := by obtain ⟨c, A, -⟩ := A; exact A.lt
theorem own_Aext (A : own_A ty Z h a l) (E : Ext h h') : own_A ty Z h' a l := by obtain ⟨c, A, r⟩ := A; exact ⟨c, A.ext E, r⟩
theorem own_Jext (A : own_J Z h a lj) (E : Ext h h') : own_J Z h' a lj := by obtain ⟨c, A, r⟩ := A; exact ⟨c, A.ext E, r⟩
theorem own_Akeep {ws : List Addr} (A : own_A ty Z h a l) (K : Keep h h' ws) (q : a ∉ ws) : own_A ty Z h' a l := by obtain ⟨c, A, r⟩ := A; exact ⟨c, ⟨K.2.1 a c A.1 q, A.2⟩, r⟩
theorem own_Jkeep {ws : List Addr} (A : own_J Z h a lj) (K : Keep h h' ws) (q : a ∉ ws) : own_J Z h' a lj := by obtain ⟨c, A, r⟩ := A; exact ⟨c, ⟨K.2.1 a c A.1 q, A.2⟩, r⟩
theorem own_nin {x y : Addr} (q : x ≠ y) : x ∉ [y] := ninS q nin0
theorem own_clamp {j : Int32} {i : Nat} (e : j.toInt = i) : j.toNatClampNeg = i := by rw [Int32.toNatClampNeg, e]; rfl
theorem own_inb {j : Int32} {i n : Nat} (e : j.toInt = i) (q : i < n) : ¬ (j < 0 ∨ n ≤ j.toNatClampNeg) := by
  rw [own_clamp e, Int32.lt_iff_toInt_lt, e]
  have : (0 : Int32).toInt = 0 := rfl
  omega
theorem own_setD {l : List Int32} {i : Nat} {x : Int32} (k : Nat) (hk : k < l.length) : (l.set i x).getD k 0 = if i = k then x else l.getD k 0 := by
  simp only [List.getD_eq_getElem?_getD, List.getElem?_set]
  split
  · subst_vars; simp [hk]
  · rfl
theorem own_setJ {l : List Int64} {i : Nat} {x : Int64} (k : Nat) (hk : k < l.length) : (l.set i x).getD k 0 = if i = k then x else l.getD k 0 := by
  simp only [List.getD_eq_getElem?_getD, List.getElem?_set]
  split
  · subst_vars; simp [hk]
  · rfl
theorem own_Aset {c : Cell} {i : Nat} {j x : Int32} (A : Arr Z h a c ty) (hs : c.slots.size = l.length) (hb : l.length < 2 ^ 31) (H : ∀ i, i < l.length → c.slots[i]? = some (.int (l.getD i 0))) (W : Wr h h' a j.toNatClampNeg (.int x)) (e : j.toInt = i) (hi : i < l.length) : own_A ty Z h' a (l.set i x) := by
  refine ⟨_, A.same W, by rw [sz_set, List.length_set]; exact hs, by rw [List.length_set]; exact hb, fun k hk => ?_⟩
  rw [List.length_set] at hk
  rw [own_setD k hk, own_clamp e]
  by_cases u : i = k
  · subst u; simp [Cell.setSlot, hs, hk]
  · rw [if_neg u, ← H k hk]
    exact Array.getElem?_setIfInBounds_ne u
theorem own_Jset {c : Cell} {i : Nat} {j : Int32} {x : Int64} (A : Arr Z h a c .long) (hs : c.slots.size = lj.length) (hb : lj.length < 2 ^ 31) (H : ∀ i, i < lj.length → c.slots[i]? = some (.long (lj.getD i 0))) (W : Wr h h' a j.toNatClampNeg (.long x)) (e : j.toInt = i) (hi : i < lj.length) : own_J Z h' a (lj.set i x) := by
  refine ⟨_, A.same W, by rw [sz_set, List.length_set]; exact hs, by rw [List.length_set]; exact hb, fun k hk => ?_⟩
  rw [List.length_set] at hk
  rw [own_setJ k hk, own_clamp e]
  by_cases u : i = k
  · subst u; simp [Cell.setSlot, hs, hk]
  · rw [if_neg u, ← H k hk]
    exact Array.getElem?_setIfInBounds_ne u
theorem own_iastore {j x : Int32} (w : own_W K B Z n0 h ck cs pc L (.int x :: .int j :: .ref a :: S)) (hd : decode B.bytes pc = .ok (.iastore, 1)) (A : own_A .int Z h a l) (i : Nat) (e : j.toInt = i) (hi : i < l.length) (ga : n0 ≤ a) {l' : List Int32} (el : l.set i x = l') :
    ∃ h', own_W K B Z n0 h' ck cs (pc + 1) L S ∧ own_A .int Z h' a l' ∧ Keep h h' [a] := by
  subst el
  obtain ⟨p, l, e', s, m, args, below, meth, c, start⟩ := K
  obtain ⟨hx, hZ, hown, hnm, hby, hml, hret, hlk, hn, T, locs, X, eT, N, pre⟩ := w
  obtain ⟨cl, Ar, hs, hb1, H⟩ := A
  obtain ⟨T', h', X', e1, W', st⟩ := stI X hx hZ eT Ar (j := j) (own_inb e (by rw [hs]; exact hi)) (g := mkF m pc L (.int x :: .int j :: .ref a :: S)) rfl rfl (hb hby hd)
  exact ⟨h', ⟨hx, hZ, hown, hnm, hby, hml, hret, hlk, by rw [W'.size]; exact hn, T', _, X', e1, Fr.snoc X' N ga, fun tg k => pre tg (st tg k)⟩, own_Aset Ar hs hb1 H W' e hi, Keep.of_wr W'⟩
theorem own_bastore {j x : Int32} (w : own_W K B Z n0 h ck cs pc L (.int x :: .int j :: .ref a :: S)) (hd : decode B.bytes pc = .ok (.bastore, 1)) (A : own_A .byte Z h a l) (i : Nat) (e : j.toInt = i) (hi : i < l.length) (ga : n0 ≤ a) {l' : List Int32} (el : l.set i (nar .byte x) = l') :
    ∃ h', own_W K B Z n0 h' ck cs (pc + 1) L S ∧ own_A .byte Z h' a l' ∧ Keep h h' [a] := by
  subst el
  obtain ⟨p, l, e', s, m, args, below, meth, c, start⟩ := K
  obtain ⟨hx, hZ, hown, hnm, hby, hml, hret, hlk, hn, T, locs, X, eT, N, pre⟩ := w
  obtain ⟨cl, Ar, hs, hb1, H⟩ := A
  obtain ⟨T', h', X', e1, W', st⟩ := stB X hx hZ eT Ar (j := j) (own_inb e (by rw [hs]; exact hi)) (g := mkF m pc L (.int x :: .int j :: .ref a :: S)) rfl rfl (hb hby hd)
  exact ⟨h', ⟨hx, hZ, hown, hnm, hby, hml, hret, hlk, by rw [W'.size]; exact hn, T', _, X', e1, Fr.snoc X' N ga, fun tg k => pre tg (st tg k)⟩, own_Aset Ar hs hb1 H W' e hi, Keep.of_wr W'⟩
theorem own_castore {j x : Int32} (w : own_W K B Z n0 h ck cs pc L (.int x :: .int j :: .ref a :: S)) (hd : decode B.bytes pc = .ok (.castore, 1)) (A : own_A .char Z h a l) (i : Nat) (e : j.toInt = i) (hi : i < l.length) (ga : n0 ≤ a) {l' : List Int32} (el : l.set i (nar .char x) = l') :
    ∃ h', own_W K B Z n0 h' ck cs (pc + 1) L S ∧ own_A .char Z h' a l' ∧ Keep h h' [a] := by
  subst el
  obtain ⟨p, l, e', s, m, args, below, meth, c, start⟩ := K
  obtain ⟨hx, hZ, hown, hnm, hby, hml, hret, hlk, hn, T, locs, X, eT, N, pre⟩ := w
  obtain ⟨cl, Ar, hs, hb1, H⟩ := A
  obtain ⟨T', h', X', e1, W', st⟩ := stC X hx hZ eT Ar (j := j) (own_inb e (by rw [hs]; exact hi)) (g := mkF m pc L (.int x :: .int j :: .ref a :: S)) rfl rfl (hb hby hd)
  exact ⟨h', ⟨hx, hZ, hown, hnm, hby, hml, hret, hlk, by rw [W'.size]; exact hn, T', _, X', e1, Fr.snoc X' N ga, fun tg k => pre tg (st tg k)⟩, own_Aset Ar hs hb1 H W' e hi, Keep.of_wr W'⟩
theorem own_lastore {j : Int32} {x : Int64} (w : own_W K B Z n0 h ck cs pc L (.long x :: .int j :: .ref a :: S)) (hd : decode B.bytes pc = .ok (.lastore, 1)) (A : own_J Z h a lj) (i : Nat) (e : j.toInt = i) (hi : i < lj.length) (ga : n0 ≤ a) {l' : List Int64} (el : lj.set i x = l') :
    ∃ h', own_W K B Z n0 h' ck cs (pc + 1) L S ∧ own_J Z h' a l' ∧ Keep h h' [a] := by
  subst el
  obtain ⟨p, l, e', s, m, args, below, meth, c, start⟩ := K
  obtain ⟨hx, hZ, hown, hnm, hby, hml, hret, hlk, hn, T, locs, X, eT, N, pre⟩ := w
  obtain ⟨cl, Ar, hs, hb1, H⟩ := A
  obtain ⟨T', h', X', e1, W', st⟩ := stJ X hx hZ eT Ar (j := j) (own_inb e (by rw [hs]; exact hi)) (g := mkF m pc L (.long x :: .int j :: .ref a :: S)) rfl rfl (hb hby hd)
  exact ⟨h', ⟨hx, hZ, hown, hnm, hby, hml, hret, hlk, by rw [W'.size]; exact hn, T', _, X', e1, Fr.snoc X' N ga, fun tg k => pre tg (st tg k)⟩, own_Jset Ar hs hb1 H W' e hi, Keep.of_wr W'⟩
theorem own_iaload {j : Int32} (w : own_W K B Z n0 h ck cs pc L (.int j :: .ref a :: S)) (hd : decode B.bytes pc = .ok (.iaload, 1)) (A : own_A .int Z h a l) (i : Nat) (e : j.toInt = i) (hi : i < l.length) {v : Int32} (ev : l.getD i 0 = v) : own_W K B Z n0 h ck cs (pc + 1) L (.int v :: S) := by
  obtain ⟨cl, Ar, hs, hb1, H⟩ := A
  exact own_step w fun X hx hZ _ hby eT tg kt => X.iaload hx (cell := cl) (j := j) (v := .int v) (by rw [eT]; exact Ar.1) (State.isArrayOf_alike hZ.alike Ar.2.1) Ar.2.2 (own_inb e (by rw [hs]; exact hi)) (by rw [own_clamp e, H i hi, ev]) (g := mkF _ pc L (.int j :: .ref a :: S)) rfl rfl (hb hby hd) tg kt
theorem own_baload {j : Int32} (w : own_W K B Z n0 h ck cs pc L (.int j :: .ref a :: S)) (hd : decode B.bytes pc = .ok (.baload, 1)) (A : own_A .byte Z h a l) (i : Nat) (e : j.toInt = i) (hi : i < l.length) {v : Int32} (ev : l.getD i 0 = v) : own_W K B Z n0 h ck cs (pc + 1) L (.int v :: S) := by
  obtain ⟨cl, Ar, hs, hb1, H⟩ := A
  exact own_step w fun X hx hZ _ hby eT tg kt => X.baloadBytes hx (cell := cl) (j := j) (v := .int v) (by rw [eT]; exact Ar.1) (State.isArrayOf_alike hZ.alike Ar.2.1) Ar.2.2 (own_inb e (by rw [hs]; exact hi)) (by rw [own_clamp e, H i hi, ev]) (g := mkF _ pc L (.int j :: .ref a :: S)) rfl rfl (hb hby hd) tg kt
theorem own_caload {j : Int32} (w : own_W K B Z n0 h ck cs pc L (.int j :: .ref a :: S)) (hd : decode B.bytes pc = .ok (.caload, 1)) (A : own_A .char Z h a l) (i : Nat) (e : j.toInt = i) (hi : i < l.length) {v : Int32} (ev : l.getD i 0 = v) : own_W K B Z n0 h ck cs (pc + 1) L (.int v :: S) := by
  obtain ⟨cl, Ar, hs, hb1, H⟩ := A
  exact own_step w fun X hx hZ _ hby eT tg kt => X.caload hx (cell := cl) (j := j) (v := .int v) (by rw [eT]; exact Ar.1) (State.isArrayOf_alike hZ.alike Ar.2.1) Ar.2.2 (own_inb e (by rw [hs]; exact hi)) (by rw [own_clamp e, H i hi, ev]) (g := mkF _ pc L (.int j :: .ref a :: S)) rfl rfl (hb hby hd) tg kt
theorem own_laload {j : Int32} (w : own_W K B Z n0 h ck cs pc L (.int j :: .ref a :: S)) (hd : decode B.bytes pc = .ok (.laload, 1)) (A : own_J Z h a lj) (i : Nat) (e : j.toInt = i) (hi : i < lj.length) {v : Int64} (ev : lj.getD i 0 = v) : own_W K B Z n0 h ck cs (pc + 1) L (.long v :: S) := by
  obtain ⟨cl, Ar, hs, hb1, H⟩ := A
  exact own_step w fun X hx hZ _ hby eT tg kt => X.laload hx (cell := cl) (j := j) (v := .long v) (by rw [eT]; exact Ar.1) (State.isArrayOf_alike hZ.alike Ar.2.1) Ar.2.2 (own_inb e (by rw [hs]; exact hi)) (by rw [own_clamp e, H i hi, ev]) (g := mkF _ pc L (.int j :: .ref a :: S)) rfl rfl (hb hby hd) tg kt
theorem own_alen (w : own_W K B Z n0 h ck cs pc L (.ref a :: S)) (hd : decode B.bytes pc = .ok (.arraylength, 1)) (A : own_A ty Z h a l) : own_W K B Z n0 h ck cs (pc + 1) L (.int l.length.toInt32 :: S) := by
  obtain ⟨cl, Ar, hs, hb1, H⟩ := A
  exact own_step w fun X hx hZ _ hby eT tg kt => X.arraylength hx (cell := cl) (by rw [eT]; exact Ar.1) (State.isArrayOf_alike hZ.alike Ar.2.1) (g := mkF _ pc L (.ref a :: S)) rfl rfl (hb hby hd) tg (by rw [hs]; exact kt)
theorem own_alenJ (w : own_W K B Z n0 h ck cs pc L (.ref a :: S)) (hd : decode B.bytes pc = .ok (.arraylength, 1)) (A : own_J Z h a lj) : own_W K B Z n0 h ck cs (pc + 1) L (.int lj.length.toInt32 :: S) := by
  obtain ⟨cl, Ar, hs, hb1, H⟩ := A
  exact own_step w fun X hx hZ _ hby eT tg kt => X.arraylength hx (cell := cl) (by rw [eT]; exact Ar.1) (State.isArrayOf_alike hZ.alike Ar.2.1) (g := mkF _ pc L (.ref a :: S)) rfl rfl (hb hby hd) tg (by rw [hs]; exact kt)
theorem own_newP {aty : ArrayType} {n : Int32} (w : own_W K B Z n0 h ck cs pc L (.int n :: S)) (hd : decode B.bytes pc = .ok (.newarray aty, 2)) (wa : (Jvm.Cond.arrayClass (newarray.typeOf aty)).before a0 Z = true) (k cap : Nat) (e : n.toInt = k) (hk : k ≤ cap) (hcap : cap < 1000) (hc : ck + 1 ≤ B.rm.cells) (hs : cs + cap ≤ B.rm.slots) :
    ∃ h' a cA, own_W K B Z n0 h' (ck + 1) (cs + cap) (pc + 2) L (.ref a :: S) ∧ a = h.size ∧ n0 ≤ a ∧ Ext h h' ∧ Arr Z h' a (newA cA (newarray.typeOf aty) n) (newarray.typeOf aty) := by
  obtain ⟨p, l, e', s, m, args, below, meth, c, start⟩ := K
  obtain ⟨hx, hZ, hown, hnm, hby, hml, hret, hlk, hn, T, locs, X, eT, N, pre⟩ := w
  have q1 : n.toNatClampNeg = k := own_clamp e
  have q2 : ¬ n < 0 := by
    rw [Int32.lt_iff_toInt_lt, e]
    have : (0 : Int32).toInt = 0 := rfl
    omega
  obtain ⟨T', h', cA, X', e1, E, A, st⟩ := newP X hx hZ wa eT (g := mkF m pc L (.int n :: S)) rfl (hb hby hd) rfl q2 (cap := cap) (by rw [q1]; exact hk) (by omega) hc hs
  exact ⟨h', h.size, cA, ⟨hx, hZ, hown, hnm, hby, hml, hret, hlk, Nat.le_trans hn E.1, T', _, X', e1, N, fun tg k => pre tg (st tg k)⟩, rfl, hn, E, A⟩
theorem own_newI {aty : ArrayType} {n : Int32} (w : own_W K B Z n0 h ck cs pc L (.int n :: S)) (hd : decode B.bytes pc = .ok (.newarray aty, 2)) (wa : (Jvm.Cond.arrayClass (newarray.typeOf aty)).before a0 Z = true) (hdf : defaultValue (newarray.typeOf aty) = .int 0) (k cap : Nat) (e : n.toInt = k) (hk : k ≤ cap) (hcap : cap < 1000) (hc : ck + 1 ≤ B.rm.cells) (hs : cs + cap ≤ B.rm.slots) {l' : List Int32} (el : List.replicate k 0 = l') :
    ∃ h' a, own_W K B Z n0 h' (ck + 1) (cs + cap) (pc + 2) L (.ref a :: S) ∧ a = h.size ∧ n0 ≤ a ∧ Ext h h' ∧ own_A (newarray.typeOf aty) Z h' a l' := by
  subst el
  obtain ⟨h', a, cA, w', e1, g, E, A⟩ := own_newP w hd wa k cap e hk hcap hc hs
  have q1 : n.toNatClampNeg = k := own_clamp e
  refine ⟨h', a, w', e1, g, E, _, A, by rw [sz_new, q1, List.length_replicate], by rw [List.length_replicate]; omega, fun i hi => ?_⟩
  rw [List.length_replicate] at hi
  simp [newA, q1, hi, hdf, List.getD_eq_getElem?_getD]
theorem own_newJ {n : Int32} (w : own_W K B Z n0 h ck cs pc L (.int n :: S)) (hd : decode B.bytes pc = .ok (.newarray .long, 2)) (wa : (Jvm.Cond.arrayClass .long).before a0 Z = true) (k cap : Nat) (e : n.toInt = k) (hk : k ≤ cap) (hcap : cap < 1000) (hc : ck + 1 ≤ B.rm.cells) (hs : cs + cap ≤ B.rm.slots) {l' : List Int64} (el : List.replicate k 0 = l') :
    ∃ h' a, own_W K B Z n0 h' (ck + 1) (cs + cap) (pc + 2) L (.ref a :: S) ∧ a = h.size ∧ n0 ≤ a ∧ Ext h h' ∧ own_J Z h' a l' := by
  subst el
  obtain ⟨h', a, cA, w', e1, g, E, A⟩ := own_newP w hd wa k cap e hk hcap hc hs
  have q1 : n.toNatClampNeg = k := own_clamp e
  refine ⟨h', a, w', e1, g, E, _, A, by rw [sz_new, q1, List.length_replicate], by rw [List.length_replicate]; omega, fun i hi => ?_⟩
  rw [List.length_replicate] at hi
  have hdf : defaultValue (newarray.typeOf .long) = .long 0 := rfl
  simp [newA, q1, hi, hdf, List.getD_eq_getElem?_getD]
end Own
theorem own_n1 : nar .boolean 1 = 1 := by decide
theorem own_n0 : nar .boolean 0 = 0 := by decide
theorem d1_0 : decode prog_179_method_2_code 0 = .ok (.iload_n 0, 1) := by decide +kernel
theorem d1_1 : decode prog_179_method_2_code 1 = .ok (.bipush 97, 2) := by decide +kernel
theorem d1_3 : decode prog_179_method_2_code 3 = .ok (.if_icmp .lt 9, 3) := by decide +kernel
theorem d1_6 : decode prog_179_method_2_code 6 = .ok (.iload_n 0, 1) := by decide +kernel
theorem d1_7 : decode prog_179_method_2_code 7 = .ok (.bipush 122, 2) := by decide +kernel
theorem d1_9 : decode prog_179_method_2_code 9 = .ok (.if_icmp .le 182, 3) := by decide +kernel
theorem d1_12 : decode prog_179_method_2_code 12 = .ok (.iload_n 0, 1) := by decide +kernel
theorem d1_13 : decode prog_179_method_2_code 13 = .ok (.bipush 65, 2) := by decide +kernel
theorem d1_15 : decode prog_179_method_2_code 15 = .ok (.if_icmp .lt 9, 3) := by decide +kernel
theorem d1_18 : decode prog_179_method_2_code 18 = .ok (.iload_n 0, 1) := by decide +kernel
theorem d1_19 : decode prog_179_method_2_code 19 = .ok (.bipush 90, 2) := by decide +kernel
theorem d1_21 : decode prog_179_method_2_code 21 = .ok (.if_icmp .le 170, 3) := by decide +kernel
theorem d1_24 : decode prog_179_method_2_code 24 = .ok (.iload_n 0, 1) := by decide +kernel
theorem d1_25 : decode prog_179_method_2_code 25 = .ok (.bipush 95, 2) := by decide +kernel
theorem d1_27 : decode prog_179_method_2_code 27 = .ok (.if_icmp .eq 164, 3) := by decide +kernel
theorem d1_30 : decode prog_179_method_2_code 30 = .ok (.iload_n 0, 1) := by decide +kernel
theorem d1_31 : decode prog_179_method_2_code 31 = .ok (.sipush 192, 3) := by decide +kernel
theorem d1_34 : decode prog_179_method_2_code 34 = .ok (.if_icmp .lt 10, 3) := by decide +kernel
theorem d1_37 : decode prog_179_method_2_code 37 = .ok (.iload_n 0, 1) := by decide +kernel
theorem d1_38 : decode prog_179_method_2_code 38 = .ok (.sipush 214, 3) := by decide +kernel
theorem d1_41 : decode prog_179_method_2_code 41 = .ok (.if_icmp .le 150, 3) := by decide +kernel
theorem d1_44 : decode prog_179_method_2_code 44 = .ok (.iload_n 0, 1) := by decide +kernel
theorem d1_45 : decode prog_179_method_2_code 45 = .ok (.sipush 216, 3) := by decide +kernel
theorem d1_48 : decode prog_179_method_2_code 48 = .ok (.if_icmp .lt 10, 3) := by decide +kernel
theorem d1_51 : decode prog_179_method_2_code 51 = .ok (.iload_n 0, 1) := by decide +kernel
theorem d1_52 : decode prog_179_method_2_code 52 = .ok (.sipush 246, 3) := by decide +kernel
theorem d1_55 : decode prog_179_method_2_code 55 = .ok (.if_icmp .le 136, 3) := by decide +kernel
theorem d1_58 : decode prog_179_method_2_code 58 = .ok (.iload_n 0, 1) := by decide +kernel
theorem d1_59 : decode prog_179_method_2_code 59 = .ok (.sipush 248, 3) := by decide +kernel
theorem d1_62 : decode prog_179_method_2_code 62 = .ok (.if_icmp .lt 10, 3) := by decide +kernel
theorem d1_65 : decode prog_179_method_2_code 65 = .ok (.iload_n 0, 1) := by decide +kernel
theorem d1_66 : decode prog_179_method_2_code 66 = .ok (.sipush 767, 3) := by decide +kernel
theorem d1_69 : decode prog_179_method_2_code 69 = .ok (.if_icmp .le 122, 3) := by decide +kernel
theorem d1_72 : decode prog_179_method_2_code 72 = .ok (.iload_n 0, 1) := by decide +kernel
theorem d1_73 : decode prog_179_method_2_code 73 = .ok (.sipush 880, 3) := by decide +kernel
theorem d1_76 : decode prog_179_method_2_code 76 = .ok (.if_icmp .lt 10, 3) := by decide +kernel
theorem d1_79 : decode prog_179_method_2_code 79 = .ok (.iload_n 0, 1) := by decide +kernel
theorem d1_80 : decode prog_179_method_2_code 80 = .ok (.sipush 893, 3) := by decide +kernel
theorem d1_83 : decode prog_179_method_2_code 83 = .ok (.if_icmp .le 108, 3) := by decide +kernel
theorem d1_86 : decode prog_179_method_2_code 86 = .ok (.iload_n 0, 1) := by decide +kernel
theorem d1_87 : decode prog_179_method_2_code 87 = .ok (.sipush 895, 3) := by decide +kernel
theorem d1_90 : decode prog_179_method_2_code 90 = .ok (.if_icmp .lt 10, 3) := by decide +kernel
theorem d1_93 : decode prog_179_method_2_code 93 = .ok (.iload_n 0, 1) := by decide +kernel
theorem d1_94 : decode prog_179_method_2_code 94 = .ok (.sipush 8191, 3) := by decide +kernel
theorem d1_97 : decode prog_179_method_2_code 97 = .ok (.if_icmp .le 94, 3) := by decide +kernel
theorem d1_100 : decode prog_179_method_2_code 100 = .ok (.iload_n 0, 1) := by decide +kernel
theorem d1_101 : decode prog_179_method_2_code 101 = .ok (.sipush 8204, 3) := by decide +kernel
theorem d1_104 : decode prog_179_method_2_code 104 = .ok (.if_icmp .lt 10, 3) := by decide +kernel
theorem d1_107 : decode prog_179_method_2_code 107 = .ok (.iload_n 0, 1) := by decide +kernel
theorem d1_108 : decode prog_179_method_2_code 108 = .ok (.sipush 8205, 3) := by decide +kernel
theorem d1_111 : decode prog_179_method_2_code 111 = .ok (.if_icmp .le 80, 3) := by decide +kernel
theorem d1_114 : decode prog_179_method_2_code 114 = .ok (.iload_n 0, 1) := by decide +kernel
theorem d1_115 : decode prog_179_method_2_code 115 = .ok (.sipush 8304, 3) := by decide +kernel
theorem d1_118 : decode prog_179_method_2_code 118 = .ok (.if_icmp .lt 10, 3) := by decide +kernel
theorem d1_121 : decode prog_179_method_2_code 121 = .ok (.iload_n 0, 1) := by decide +kernel
theorem d1_122 : decode prog_179_method_2_code 122 = .ok (.sipush 8591, 3) := by decide +kernel
theorem d1_125 : decode prog_179_method_2_code 125 = .ok (.if_icmp .le 66, 3) := by decide +kernel
theorem d1_128 : decode prog_179_method_2_code 128 = .ok (.iload_n 0, 1) := by decide +kernel
theorem d1_129 : decode prog_179_method_2_code 129 = .ok (.sipush 11264, 3) := by decide +kernel
theorem d1_132 : decode prog_179_method_2_code 132 = .ok (.if_icmp .lt 10, 3) := by decide +kernel
theorem d1_135 : decode prog_179_method_2_code 135 = .ok (.iload_n 0, 1) := by decide +kernel
theorem d1_136 : decode prog_179_method_2_code 136 = .ok (.sipush 12271, 3) := by decide +kernel
theorem d1_139 : decode prog_179_method_2_code 139 = .ok (.if_icmp .le 52, 3) := by decide +kernel
theorem d1_142 : decode prog_179_method_2_code 142 = .ok (.iload_n 0, 1) := by decide +kernel
theorem d1_143 : decode prog_179_method_2_code 143 = .ok (.sipush 12289, 3) := by decide +kernel
theorem d1_146 : decode prog_179_method_2_code 146 = .ok (.if_icmp .lt 9, 3) := by decide +kernel
theorem d1_149 : decode prog_179_method_2_code 149 = .ok (.iload_n 0, 1) := by decide +kernel
theorem d1_150 : decode prog_179_method_2_code 150 = .ok (.ldc 7, 2) := by decide +kernel
theorem d1_152 : decode prog_179_method_2_code 152 = .ok (.if_icmp .le 39, 3) := by decide +kernel
theorem d1_155 : decode prog_179_method_2_code 155 = .ok (.iload_n 0, 1) := by decide +kernel
theorem d1_156 : decode prog_179_method_2_code 156 = .ok (.ldc 8, 2) := by decide +kernel
theorem d1_158 : decode prog_179_method_2_code 158 = .ok (.if_icmp .lt 9, 3) := by decide +kernel
theorem d1_161 : decode prog_179_method_2_code 161 = .ok (.iload_n 0, 1) := by decide +kernel
theorem d1_162 : decode prog_179_method_2_code 162 = .ok (.ldc 9, 2) := by decide +kernel
theorem d1_164 : decode prog_179_method_2_code 164 = .ok (.if_icmp .le 27, 3) := by decide +kernel
theorem d1_167 : decode prog_179_method_2_code 167 = .ok (.iload_n 0, 1) := by decide +kernel
theorem d1_168 : decode prog_179_method_2_code 168 = .ok (.ldc 10, 2) := by decide +kernel
theorem d1_170 : decode prog_179_method_2_code 170 = .ok (.if_icmp .lt 9, 3) := by decide +kernel
theorem d1_173 : decode prog_179_method_2_code 173 = .ok (.iload_n 0, 1) := by decide +kernel
theorem d1_174 : decode prog_179_method_2_code 174 = .ok (.ldc 11, 2) := by decide +kernel
theorem d1_176 : decode prog_179_method_2_code 176 = .ok (.if_icmp .le 15, 3) := by decide +kernel
theorem d1_179 : decode prog_179_method_2_code 179 = .ok (.iload_n 0, 1) := by decide +kernel
theorem d1_180 : decode prog_179_method_2_code 180 = .ok (.ldc 12, 2) := by decide +kernel
theorem d1_182 : decode prog_179_method_2_code 182 = .ok (.if_icmp .lt 13, 3) := by decide +kernel
theorem d1_185 : decode prog_179_method_2_code 185 = .ok (.iload_n 0, 1) := by decide +kernel
theorem d1_186 : decode prog_179_method_2_code 186 = .ok (.ldc 13, 2) := by decide +kernel
theorem d1_188 : decode prog_179_method_2_code 188 = .ok (.if_icmp .gt 7, 3) := by decide +kernel
theorem d1_191 : decode prog_179_method_2_code 191 = .ok (.iconst 1, 1) := by decide +kernel
theorem d1_192 : decode prog_179_method_2_code 192 = .ok (.goto 4, 3) := by decide +kernel
theorem d1_195 : decode prog_179_method_2_code 195 = .ok (.iconst 0, 1) := by decide +kernel
theorem d1_196 : decode prog_179_method_2_code 196 = .ok (.ireturn, 1) := by decide +kernel
abbrev b1 : OwnB := (⟨"dev/stepflow/xdm/XmlChars", "isNameStart", "(I)Z"⟩, prog_179_method_2_code, 1, (some .boolean), ({ frames := 0, cells := 0, slots := 0, locals := 0 } : Room))
theorem pn_1 : plainName "dev/stepflow/xdm/XmlChars" = true := by first | (simp [plainName, overriddenIn]; done) | decide +kernel
theorem pd_1 : parseMethodDescriptor "(I)Z" = some ⟨[.int], (some .boolean)⟩ := by decide +kernel
theorem ef_1 (p0 : Int32) (m : MethodId) : entryFrame m #[(.int p0)] 1 = mkF m 0 #[.val (.int p0)] [] := by first | (simp [entryFrame, mkF, argsToLocals, Value.category, maxLocals]; done) | rfl
def g1_191 (i0 : Int) : Int32 := 1
theorem n1_191 {K : OwnK} {Z : State} {n0 : Nat} {h : Heap} {a0 : Array Value} (hw : ∀ d ∈ tables_1, d.before a0 Z = true) (p0 : Int32) (w : own_W K b1 Z n0 h 0 0 191 #[.val (.int p0)] []) : own_G K n0 0 0 (fun v h' => v = some (.int (g1_191 p0.toInt)) ∧ h = h') := by
  replace w : own_W K b1 Z n0 h 0 0 192 #[.val (.int p0)] [(.int (1 : Int32))] := own_iconst w d1_191 rfl
  replace w : own_W K b1 Z n0 h 0 0 196 #[.val (.int p0)] [(.int (1 : Int32))] := own_goto w d1_192 (by decide) (by decide)
  exact own_retZ w d1_196 rfl (Or.inl rfl) ⟨congrArg (fun z => some (Value.int z)) own_n1, rfl⟩ (Nat.le_refl _) (Nat.le_refl _)
def g1_195 (i0 : Int) : Int32 := 0
theorem n1_195 {K : OwnK} {Z : State} {n0 : Nat} {h : Heap} {a0 : Array Value} (hw : ∀ d ∈ tables_1, d.before a0 Z = true) (p0 : Int32) (w : own_W K b1 Z n0 h 0 0 195 #[.val (.int p0)] []) : own_G K n0 0 0 (fun v h' => v = some (.int (g1_195 p0.toInt)) ∧ h = h') := by
  replace w : own_W K b1 Z n0 h 0 0 196 #[.val (.int p0)] [(.int (0 : Int32))] := own_iconst w d1_195 rfl
  exact own_retZ w d1_196 rfl (Or.inl rfl) ⟨congrArg (fun z => some (Value.int z)) own_n0, rfl⟩ (Nat.le_refl _) (Nat.le_refl _)
def g1_185 (i0 : Int) : Int32 := if 983039 < i0 then g1_195 i0 else g1_191 i0
theorem n1_185 {K : OwnK} {Z : State} {n0 : Nat} {h : Heap} {a0 : Array Value} (hw : ∀ d ∈ tables_1, d.before a0 Z = true) (p0 : Int32) (w : own_W K b1 Z n0 h 0 0 185 #[.val (.int p0)] []) : own_G K n0 0 0 (fun v h' => v = some (.int (g1_185 p0.toInt)) ∧ h = h') := by
  replace w : own_W K b1 Z n0 h 0 0 186 #[.val (.int p0)] [(.int p0)] := own_iloadN w d1_185 rfl
  replace w : own_W K b1 Z n0 h 0 0 188 #[.val (.int p0)] [(.int (983039 : Int32)), (.int p0)] := own_ldc w d1_186 (hw _ (List.mem_of_getElem? (i := 30) rfl))
  by_cases hc : 983039 < p0.toInt
  · rw [show g1_185 p0.toInt = g1_195 p0.toInt from if_pos hc]
    exact n1_195 hw p0 (own_icmpY w d1_188 rfl (by decide) hc (by decide) (by decide))
  · rw [show g1_185 p0.toInt = g1_191 p0.toInt from if_neg hc]
    exact n1_191 hw p0 (own_icmpN w d1_188 rfl (by decide) hc)
def g1_179 (i0 : Int) : Int32 := if i0 < 65536 then g1_195 i0 else g1_185 i0
theorem n1_179 {K : OwnK} {Z : State} {n0 : Nat} {h : Heap} {a0 : Array Value} (hw : ∀ d ∈ tables_1, d.before a0 Z = true) (p0 : Int32) (w : own_W K b1 Z n0 h 0 0 179 #[.val (.int p0)] []) : own_G K n0 0 0 (fun v h' => v = some (.int (g1_179 p0.toInt)) ∧ h = h') := by
  replace w : own_W K b1 Z n0 h 0 0 180 #[.val (.int p0)] [(.int p0)] := own_iloadN w d1_179 rfl
  replace w : own_W K b1 Z n0 h 0 0 182 #[.val (.int p0)] [(.int (65536 : Int32)), (.int p0)] := own_ldc w d1_180 (hw _ (List.mem_of_getElem? (i := 15) rfl))
  by_cases hc : p0.toInt < 65536
  · rw [show g1_179 p0.toInt = g1_195 p0.toInt from if_pos hc]
    exact n1_195 hw p0 (own_icmpY w d1_182 rfl (by decide) hc (by decide) (by decide))
  · rw [show g1_179 p0.toInt = g1_185 p0.toInt from if_neg hc]
    exact n1_185 hw p0 (own_icmpN w d1_182 rfl (by decide) hc)
def g1_173 (i0 : Int) : Int32 := if 65533 < i0 then g1_179 i0 else g1_191 i0
theorem n1_173 {K : OwnK} {Z : State} {n0 : Nat} {h : Heap} {a0 : Array Value} (hw : ∀ d ∈ tables_1, d.before a0 Z = true) (p0 : Int32) (w : own_W K b1 Z n0 h 0 0 173 #[.val (.int p0)] []) : own_G K n0 0 0 (fun v h' => v = some (.int (g1_173 p0.toInt)) ∧ h = h') := by
  replace w : own_W K b1 Z n0 h 0 0 174 #[.val (.int p0)] [(.int p0)] := own_iloadN w d1_173 rfl
  replace w : own_W K b1 Z n0 h 0 0 176 #[.val (.int p0)] [(.int (65533 : Int32)), (.int p0)] := own_ldc w d1_174 (hw _ (List.mem_of_getElem? (i := 29) rfl))
  by_cases hc : 65533 < p0.toInt
  · rw [show g1_173 p0.toInt = g1_179 p0.toInt from if_pos hc]
    exact n1_179 hw p0 (own_icmpN w d1_176 rfl (by decide) hc)
  · rw [show g1_173 p0.toInt = g1_191 p0.toInt from if_neg hc]
    exact n1_191 hw p0 (own_icmpY w d1_176 rfl (by decide) hc (by decide) (by decide))
def g1_167 (i0 : Int) : Int32 := if i0 < 65008 then g1_179 i0 else g1_173 i0
theorem n1_167 {K : OwnK} {Z : State} {n0 : Nat} {h : Heap} {a0 : Array Value} (hw : ∀ d ∈ tables_1, d.before a0 Z = true) (p0 : Int32) (w : own_W K b1 Z n0 h 0 0 167 #[.val (.int p0)] []) : own_G K n0 0 0 (fun v h' => v = some (.int (g1_167 p0.toInt)) ∧ h = h') := by
  replace w : own_W K b1 Z n0 h 0 0 168 #[.val (.int p0)] [(.int p0)] := own_iloadN w d1_167 rfl
  replace w : own_W K b1 Z n0 h 0 0 170 #[.val (.int p0)] [(.int (65008 : Int32)), (.int p0)] := own_ldc w d1_168 (hw _ (List.mem_of_getElem? (i := 14) rfl))
  by_cases hc : p0.toInt < 65008
  · rw [show g1_167 p0.toInt = g1_179 p0.toInt from if_pos hc]
    exact n1_179 hw p0 (own_icmpY w d1_170 rfl (by decide) hc (by decide) (by decide))
  · rw [show g1_167 p0.toInt = g1_173 p0.toInt from if_neg hc]
    exact n1_173 hw p0 (own_icmpN w d1_170 rfl (by decide) hc)
def g1_161 (i0 : Int) : Int32 := if 64975 < i0 then g1_167 i0 else g1_191 i0
theorem n1_161 {K : OwnK} {Z : State} {n0 : Nat} {h : Heap} {a0 : Array Value} (hw : ∀ d ∈ tables_1, d.before a0 Z = true) (p0 : Int32) (w : own_W K b1 Z n0 h 0 0 161 #[.val (.int p0)] []) : own_G K n0 0 0 (fun v h' => v = some (.int (g1_161 p0.toInt)) ∧ h = h') := by
  replace w : own_W K b1 Z n0 h 0 0 162 #[.val (.int p0)] [(.int p0)] := own_iloadN w d1_161 rfl
  replace w : own_W K b1 Z n0 h 0 0 164 #[.val (.int p0)] [(.int (64975 : Int32)), (.int p0)] := own_ldc w d1_162 (hw _ (List.mem_of_getElem? (i := 28) rfl))
  by_cases hc : 64975 < p0.toInt
  · rw [show g1_161 p0.toInt = g1_167 p0.toInt from if_pos hc]
    exact n1_167 hw p0 (own_icmpN w d1_164 rfl (by decide) hc)
  · rw [show g1_161 p0.toInt = g1_191 p0.toInt from if_neg hc]
    exact n1_191 hw p0 (own_icmpY w d1_164 rfl (by decide) hc (by decide) (by decide))
def g1_155 (i0 : Int) : Int32 := if i0 < 63744 then g1_167 i0 else g1_161 i0
theorem n1_155 {K : OwnK} {Z : State} {n0 : Nat} {h : Heap} {a0 : Array Value} (hw : ∀ d ∈ tables_1, d.before a0 Z = true) (p0 : Int32) (w : own_W K b1 Z n0 h 0 0 155 #[.val (.int p0)] []) : own_G K n0 0 0 (fun v h' => v = some (.int (g1_155 p0.toInt)) ∧ h = h') := by
  replace w : own_W K b1 Z n0 h 0 0 156 #[.val (.int p0)] [(.int p0)] := own_iloadN w d1_155 rfl
  replace w : own_W K b1 Z n0 h 0 0 158 #[.val (.int p0)] [(.int (63744 : Int32)), (.int p0)] := own_ldc w d1_156 (hw _ (List.mem_of_getElem? (i := 13) rfl))
  by_cases hc : p0.toInt < 63744
  · rw [show g1_155 p0.toInt = g1_167 p0.toInt from if_pos hc]
    exact n1_167 hw p0 (own_icmpY w d1_158 rfl (by decide) hc (by decide) (by decide))
  · rw [show g1_155 p0.toInt = g1_161 p0.toInt from if_neg hc]
    exact n1_161 hw p0 (own_icmpN w d1_158 rfl (by decide) hc)
def g1_149 (i0 : Int) : Int32 := if 55295 < i0 then g1_155 i0 else g1_191 i0
theorem n1_149 {K : OwnK} {Z : State} {n0 : Nat} {h : Heap} {a0 : Array Value} (hw : ∀ d ∈ tables_1, d.before a0 Z = true) (p0 : Int32) (w : own_W K b1 Z n0 h 0 0 149 #[.val (.int p0)] []) : own_G K n0 0 0 (fun v h' => v = some (.int (g1_149 p0.toInt)) ∧ h = h') := by
  replace w : own_W K b1 Z n0 h 0 0 150 #[.val (.int p0)] [(.int p0)] := own_iloadN w d1_149 rfl
  replace w : own_W K b1 Z n0 h 0 0 152 #[.val (.int p0)] [(.int (55295 : Int32)), (.int p0)] := own_ldc w d1_150 (hw _ (List.mem_of_getElem? (i := 27) rfl))
  by_cases hc : 55295 < p0.toInt
  · rw [show g1_149 p0.toInt = g1_155 p0.toInt from if_pos hc]
    exact n1_155 hw p0 (own_icmpN w d1_152 rfl (by decide) hc)
  · rw [show g1_149 p0.toInt = g1_191 p0.toInt from if_neg hc]
    exact n1_191 hw p0 (own_icmpY w d1_152 rfl (by decide) hc (by decide) (by decide))
def g1_142 (i0 : Int) : Int32 := if i0 < 12289 then g1_155 i0 else g1_149 i0
theorem n1_142 {K : OwnK} {Z : State} {n0 : Nat} {h : Heap} {a0 : Array Value} (hw : ∀ d ∈ tables_1, d.before a0 Z = true) (p0 : Int32) (w : own_W K b1 Z n0 h 0 0 142 #[.val (.int p0)] []) : own_G K n0 0 0 (fun v h' => v = some (.int (g1_142 p0.toInt)) ∧ h = h') := by
  replace w : own_W K b1 Z n0 h 0 0 143 #[.val (.int p0)] [(.int p0)] := own_iloadN w d1_142 rfl
  replace w : own_W K b1 Z n0 h 0 0 146 #[.val (.int p0)] [(.int (12289 : Int32)), (.int p0)] := own_sipush w d1_143 rfl
  by_cases hc : p0.toInt < 12289
  · rw [show g1_142 p0.toInt = g1_155 p0.toInt from if_pos hc]
    exact n1_155 hw p0 (own_icmpY w d1_146 rfl (by decide) hc (by decide) (by decide))
  · rw [show g1_142 p0.toInt = g1_149 p0.toInt from if_neg hc]
    exact n1_149 hw p0 (own_icmpN w d1_146 rfl (by decide) hc)
def g1_135 (i0 : Int) : Int32 := if 12271 < i0 then g1_142 i0 else g1_191 i0
theorem n1_135 {K : OwnK} {Z : State} {n0 : Nat} {h : Heap} {a0 : Array Value} (hw : ∀ d ∈ tables_1, d.before a0 Z = true) (p0 : Int32) (w : own_W K b1 Z n0 h 0 0 135 #[.val (.int p0)] []) : own_G K n0 0 0 (fun v h' => v = some (.int (g1_135 p0.toInt)) ∧ h = h') := by
  replace w : own_W K b1 Z n0 h 0 0 136 #[.val (.int p0)] [(.int p0)] := own_iloadN w d1_135 rfl
  replace w : own_W K b1 Z n0 h 0 0 139 #[.val (.int p0)] [(.int (12271 : Int32)), (.int p0)] := own_sipush w d1_136 rfl
  by_cases hc : 12271 < p0.toInt
  · rw [show g1_135 p0.toInt = g1_142 p0.toInt from if_pos hc]
    exact n1_142 hw p0 (own_icmpN w d1_139 rfl (by decide) hc)
  · rw [show g1_135 p0.toInt = g1_191 p0.toInt from if_neg hc]
    exact n1_191 hw p0 (own_icmpY w d1_139 rfl (by decide) hc (by decide) (by decide))
def g1_128 (i0 : Int) : Int32 := if i0 < 11264 then g1_142 i0 else g1_135 i0
theorem n1_128 {K : OwnK} {Z : State} {n0 : Nat} {h : Heap} {a0 : Array Value} (hw : ∀ d ∈ tables_1, d.before a0 Z = true) (p0 : Int32) (w : own_W K b1 Z n0 h 0 0 128 #[.val (.int p0)] []) : own_G K n0 0 0 (fun v h' => v = some (.int (g1_128 p0.toInt)) ∧ h = h') := by
  replace w : own_W K b1 Z n0 h 0 0 129 #[.val (.int p0)] [(.int p0)] := own_iloadN w d1_128 rfl
  replace w : own_W K b1 Z n0 h 0 0 132 #[.val (.int p0)] [(.int (11264 : Int32)), (.int p0)] := own_sipush w d1_129 rfl
  by_cases hc : p0.toInt < 11264
  · rw [show g1_128 p0.toInt = g1_142 p0.toInt from if_pos hc]
    exact n1_142 hw p0 (own_icmpY w d1_132 rfl (by decide) hc (by decide) (by decide))
  · rw [show g1_128 p0.toInt = g1_135 p0.toInt from if_neg hc]
    exact n1_135 hw p0 (own_icmpN w d1_132 rfl (by decide) hc)
def g1_121 (i0 : Int) : Int32 := if 8591 < i0 then g1_128 i0 else g1_191 i0
theorem n1_121 {K : OwnK} {Z : State} {n0 : Nat} {h : Heap} {a0 : Array Value} (hw : ∀ d ∈ tables_1, d.before a0 Z = true) (p0 : Int32) (w : own_W K b1 Z n0 h 0 0 121 #[.val (.int p0)] []) : own_G K n0 0 0 (fun v h' => v = some (.int (g1_121 p0.toInt)) ∧ h = h') := by
  replace w : own_W K b1 Z n0 h 0 0 122 #[.val (.int p0)] [(.int p0)] := own_iloadN w d1_121 rfl
  replace w : own_W K b1 Z n0 h 0 0 125 #[.val (.int p0)] [(.int (8591 : Int32)), (.int p0)] := own_sipush w d1_122 rfl
  by_cases hc : 8591 < p0.toInt
  · rw [show g1_121 p0.toInt = g1_128 p0.toInt from if_pos hc]
    exact n1_128 hw p0 (own_icmpN w d1_125 rfl (by decide) hc)
  · rw [show g1_121 p0.toInt = g1_191 p0.toInt from if_neg hc]
    exact n1_191 hw p0 (own_icmpY w d1_125 rfl (by decide) hc (by decide) (by decide))
def g1_114 (i0 : Int) : Int32 := if i0 < 8304 then g1_128 i0 else g1_121 i0
theorem n1_114 {K : OwnK} {Z : State} {n0 : Nat} {h : Heap} {a0 : Array Value} (hw : ∀ d ∈ tables_1, d.before a0 Z = true) (p0 : Int32) (w : own_W K b1 Z n0 h 0 0 114 #[.val (.int p0)] []) : own_G K n0 0 0 (fun v h' => v = some (.int (g1_114 p0.toInt)) ∧ h = h') := by
  replace w : own_W K b1 Z n0 h 0 0 115 #[.val (.int p0)] [(.int p0)] := own_iloadN w d1_114 rfl
  replace w : own_W K b1 Z n0 h 0 0 118 #[.val (.int p0)] [(.int (8304 : Int32)), (.int p0)] := own_sipush w d1_115 rfl
  by_cases hc : p0.toInt < 8304
  · rw [show g1_114 p0.toInt = g1_128 p0.toInt from if_pos hc]
    exact n1_128 hw p0 (own_icmpY w d1_118 rfl (by decide) hc (by decide) (by decide))
  · rw [show g1_114 p0.toInt = g1_121 p0.toInt from if_neg hc]
    exact n1_121 hw p0 (own_icmpN w d1_118 rfl (by decide) hc)
def g1_107 (i0 : Int) : Int32 := if 8205 < i0 then g1_114 i0 else g1_191 i0
theorem n1_107 {K : OwnK} {Z : State} {n0 : Nat} {h : Heap} {a0 : Array Value} (hw : ∀ d ∈ tables_1, d.before a0 Z = true) (p0 : Int32) (w : own_W K b1 Z n0 h 0 0 107 #[.val (.int p0)] []) : own_G K n0 0 0 (fun v h' => v = some (.int (g1_107 p0.toInt)) ∧ h = h') := by
  replace w : own_W K b1 Z n0 h 0 0 108 #[.val (.int p0)] [(.int p0)] := own_iloadN w d1_107 rfl
  replace w : own_W K b1 Z n0 h 0 0 111 #[.val (.int p0)] [(.int (8205 : Int32)), (.int p0)] := own_sipush w d1_108 rfl
  by_cases hc : 8205 < p0.toInt
  · rw [show g1_107 p0.toInt = g1_114 p0.toInt from if_pos hc]
    exact n1_114 hw p0 (own_icmpN w d1_111 rfl (by decide) hc)
  · rw [show g1_107 p0.toInt = g1_191 p0.toInt from if_neg hc]
    exact n1_191 hw p0 (own_icmpY w d1_111 rfl (by decide) hc (by decide) (by decide))
def g1_100 (i0 : Int) : Int32 := if i0 < 8204 then g1_114 i0 else g1_107 i0
theorem n1_100 {K : OwnK} {Z : State} {n0 : Nat} {h : Heap} {a0 : Array Value} (hw : ∀ d ∈ tables_1, d.before a0 Z = true) (p0 : Int32) (w : own_W K b1 Z n0 h 0 0 100 #[.val (.int p0)] []) : own_G K n0 0 0 (fun v h' => v = some (.int (g1_100 p0.toInt)) ∧ h = h') := by
  replace w : own_W K b1 Z n0 h 0 0 101 #[.val (.int p0)] [(.int p0)] := own_iloadN w d1_100 rfl
  replace w : own_W K b1 Z n0 h 0 0 104 #[.val (.int p0)] [(.int (8204 : Int32)), (.int p0)] := own_sipush w d1_101 rfl
  by_cases hc : p0.toInt < 8204
  · rw [show g1_100 p0.toInt = g1_114 p0.toInt from if_pos hc]
    exact n1_114 hw p0 (own_icmpY w d1_104 rfl (by decide) hc (by decide) (by decide))
  · rw [show g1_100 p0.toInt = g1_107 p0.toInt from if_neg hc]
    exact n1_107 hw p0 (own_icmpN w d1_104 rfl (by decide) hc)
def g1_93 (i0 : Int) : Int32 := if 8191 < i0 then g1_100 i0 else g1_191 i0
theorem n1_93 {K : OwnK} {Z : State} {n0 : Nat} {h : Heap} {a0 : Array Value} (hw : ∀ d ∈ tables_1, d.before a0 Z = true) (p0 : Int32) (w : own_W K b1 Z n0 h 0 0 93 #[.val (.int p0)] []) : own_G K n0 0 0 (fun v h' => v = some (.int (g1_93 p0.toInt)) ∧ h = h') := by
  replace w : own_W K b1 Z n0 h 0 0 94 #[.val (.int p0)] [(.int p0)] := own_iloadN w d1_93 rfl
  replace w : own_W K b1 Z n0 h 0 0 97 #[.val (.int p0)] [(.int (8191 : Int32)), (.int p0)] := own_sipush w d1_94 rfl
  by_cases hc : 8191 < p0.toInt
  · rw [show g1_93 p0.toInt = g1_100 p0.toInt from if_pos hc]
    exact n1_100 hw p0 (own_icmpN w d1_97 rfl (by decide) hc)
  · rw [show g1_93 p0.toInt = g1_191 p0.toInt from if_neg hc]
    exact n1_191 hw p0 (own_icmpY w d1_97 rfl (by decide) hc (by decide) (by decide))
def g1_86 (i0 : Int) : Int32 := if i0 < 895 then g1_100 i0 else g1_93 i0
theorem n1_86 {K : OwnK} {Z : State} {n0 : Nat} {h : Heap} {a0 : Array Value} (hw : ∀ d ∈ tables_1, d.before a0 Z = true) (p0 : Int32) (w : own_W K b1 Z n0 h 0 0 86 #[.val (.int p0)] []) : own_G K n0 0 0 (fun v h' => v = some (.int (g1_86 p0.toInt)) ∧ h = h') := by
  replace w : own_W K b1 Z n0 h 0 0 87 #[.val (.int p0)] [(.int p0)] := own_iloadN w d1_86 rfl
  replace w : own_W K b1 Z n0 h 0 0 90 #[.val (.int p0)] [(.int (895 : Int32)), (.int p0)] := own_sipush w d1_87 rfl
  by_cases hc : p0.toInt < 895
  · rw [show g1_86 p0.toInt = g1_100 p0.toInt from if_pos hc]
    exact n1_100 hw p0 (own_icmpY w d1_90 rfl (by decide) hc (by decide) (by decide))
  · rw [show g1_86 p0.toInt = g1_93 p0.toInt from if_neg hc]
    exact n1_93 hw p0 (own_icmpN w d1_90 rfl (by decide) hc)
def g1_79 (i0 : Int) : Int32 := if 893 < i0 then g1_86 i0 else g1_191 i0
theorem n1_79 {K : OwnK} {Z : State} {n0 : Nat} {h : Heap} {a0 : Array Value} (hw : ∀ d ∈ tables_1, d.before a0 Z = true) (p0 : Int32) (w : own_W K b1 Z n0 h 0 0 79 #[.val (.int p0)] []) : own_G K n0 0 0 (fun v h' => v = some (.int (g1_79 p0.toInt)) ∧ h = h') := by
  replace w : own_W K b1 Z n0 h 0 0 80 #[.val (.int p0)] [(.int p0)] := own_iloadN w d1_79 rfl
  replace w : own_W K b1 Z n0 h 0 0 83 #[.val (.int p0)] [(.int (893 : Int32)), (.int p0)] := own_sipush w d1_80 rfl
  by_cases hc : 893 < p0.toInt
  · rw [show g1_79 p0.toInt = g1_86 p0.toInt from if_pos hc]
    exact n1_86 hw p0 (own_icmpN w d1_83 rfl (by decide) hc)
  · rw [show g1_79 p0.toInt = g1_191 p0.toInt from if_neg hc]
    exact n1_191 hw p0 (own_icmpY w d1_83 rfl (by decide) hc (by decide) (by decide))
def g1_72 (i0 : Int) : Int32 := if i0 < 880 then g1_86 i0 else g1_79 i0
theorem n1_72 {K : OwnK} {Z : State} {n0 : Nat} {h : Heap} {a0 : Array Value} (hw : ∀ d ∈ tables_1, d.before a0 Z = true) (p0 : Int32) (w : own_W K b1 Z n0 h 0 0 72 #[.val (.int p0)] []) : own_G K n0 0 0 (fun v h' => v = some (.int (g1_72 p0.toInt)) ∧ h = h') := by
  replace w : own_W K b1 Z n0 h 0 0 73 #[.val (.int p0)] [(.int p0)] := own_iloadN w d1_72 rfl
  replace w : own_W K b1 Z n0 h 0 0 76 #[.val (.int p0)] [(.int (880 : Int32)), (.int p0)] := own_sipush w d1_73 rfl
  by_cases hc : p0.toInt < 880
  · rw [show g1_72 p0.toInt = g1_86 p0.toInt from if_pos hc]
    exact n1_86 hw p0 (own_icmpY w d1_76 rfl (by decide) hc (by decide) (by decide))
  · rw [show g1_72 p0.toInt = g1_79 p0.toInt from if_neg hc]
    exact n1_79 hw p0 (own_icmpN w d1_76 rfl (by decide) hc)
def g1_65 (i0 : Int) : Int32 := if 767 < i0 then g1_72 i0 else g1_191 i0
theorem n1_65 {K : OwnK} {Z : State} {n0 : Nat} {h : Heap} {a0 : Array Value} (hw : ∀ d ∈ tables_1, d.before a0 Z = true) (p0 : Int32) (w : own_W K b1 Z n0 h 0 0 65 #[.val (.int p0)] []) : own_G K n0 0 0 (fun v h' => v = some (.int (g1_65 p0.toInt)) ∧ h = h') := by
  replace w : own_W K b1 Z n0 h 0 0 66 #[.val (.int p0)] [(.int p0)] := own_iloadN w d1_65 rfl
  replace w : own_W K b1 Z n0 h 0 0 69 #[.val (.int p0)] [(.int (767 : Int32)), (.int p0)] := own_sipush w d1_66 rfl
  by_cases hc : 767 < p0.toInt
  · rw [show g1_65 p0.toInt = g1_72 p0.toInt from if_pos hc]
    exact n1_72 hw p0 (own_icmpN w d1_69 rfl (by decide) hc)
  · rw [show g1_65 p0.toInt = g1_191 p0.toInt from if_neg hc]
    exact n1_191 hw p0 (own_icmpY w d1_69 rfl (by decide) hc (by decide) (by decide))
def g1_58 (i0 : Int) : Int32 := if i0 < 248 then g1_72 i0 else g1_65 i0
theorem n1_58 {K : OwnK} {Z : State} {n0 : Nat} {h : Heap} {a0 : Array Value} (hw : ∀ d ∈ tables_1, d.before a0 Z = true) (p0 : Int32) (w : own_W K b1 Z n0 h 0 0 58 #[.val (.int p0)] []) : own_G K n0 0 0 (fun v h' => v = some (.int (g1_58 p0.toInt)) ∧ h = h') := by
  replace w : own_W K b1 Z n0 h 0 0 59 #[.val (.int p0)] [(.int p0)] := own_iloadN w d1_58 rfl
  replace w : own_W K b1 Z n0 h 0 0 62 #[.val (.int p0)] [(.int (248 : Int32)), (.int p0)] := own_sipush w d1_59 rfl
  by_cases hc : p0.toInt < 248
  · rw [show g1_58 p0.toInt = g1_72 p0.toInt from if_pos hc]
    exact n1_72 hw p0 (own_icmpY w d1_62 rfl (by decide) hc (by decide) (by decide))
  · rw [show g1_58 p0.toInt = g1_65 p0.toInt from if_neg hc]
    exact n1_65 hw p0 (own_icmpN w d1_62 rfl (by decide) hc)
def g1_51 (i0 : Int) : Int32 := if 246 < i0 then g1_58 i0 else g1_191 i0
theorem n1_51 {K : OwnK} {Z : State} {n0 : Nat} {h : Heap} {a0 : Array Value} (hw : ∀ d ∈ tables_1, d.before a0 Z = true) (p0 : Int32) (w : own_W K b1 Z n0 h 0 0 51 #[.val (.int p0)] []) : own_G K n0 0 0 (fun v h' => v = some (.int (g1_51 p0.toInt)) ∧ h = h') := by
  replace w : own_W K b1 Z n0 h 0 0 52 #[.val (.int p0)] [(.int p0)] := own_iloadN w d1_51 rfl
  replace w : own_W K b1 Z n0 h 0 0 55 #[.val (.int p0)] [(.int (246 : Int32)), (.int p0)] := own_sipush w d1_52 rfl
  by_cases hc : 246 < p0.toInt
  · rw [show g1_51 p0.toInt = g1_58 p0.toInt from if_pos hc]
    exact n1_58 hw p0 (own_icmpN w d1_55 rfl (by decide) hc)
  · rw [show g1_51 p0.toInt = g1_191 p0.toInt from if_neg hc]
    exact n1_191 hw p0 (own_icmpY w d1_55 rfl (by decide) hc (by decide) (by decide))
def g1_44 (i0 : Int) : Int32 := if i0 < 216 then g1_58 i0 else g1_51 i0
theorem n1_44 {K : OwnK} {Z : State} {n0 : Nat} {h : Heap} {a0 : Array Value} (hw : ∀ d ∈ tables_1, d.before a0 Z = true) (p0 : Int32) (w : own_W K b1 Z n0 h 0 0 44 #[.val (.int p0)] []) : own_G K n0 0 0 (fun v h' => v = some (.int (g1_44 p0.toInt)) ∧ h = h') := by
  replace w : own_W K b1 Z n0 h 0 0 45 #[.val (.int p0)] [(.int p0)] := own_iloadN w d1_44 rfl
  replace w : own_W K b1 Z n0 h 0 0 48 #[.val (.int p0)] [(.int (216 : Int32)), (.int p0)] := own_sipush w d1_45 rfl
  by_cases hc : p0.toInt < 216
  · rw [show g1_44 p0.toInt = g1_58 p0.toInt from if_pos hc]
    exact n1_58 hw p0 (own_icmpY w d1_48 rfl (by decide) hc (by decide) (by decide))
  · rw [show g1_44 p0.toInt = g1_51 p0.toInt from if_neg hc]
    exact n1_51 hw p0 (own_icmpN w d1_48 rfl (by decide) hc)
def g1_37 (i0 : Int) : Int32 := if 214 < i0 then g1_44 i0 else g1_191 i0
theorem n1_37 {K : OwnK} {Z : State} {n0 : Nat} {h : Heap} {a0 : Array Value} (hw : ∀ d ∈ tables_1, d.before a0 Z = true) (p0 : Int32) (w : own_W K b1 Z n0 h 0 0 37 #[.val (.int p0)] []) : own_G K n0 0 0 (fun v h' => v = some (.int (g1_37 p0.toInt)) ∧ h = h') := by
  replace w : own_W K b1 Z n0 h 0 0 38 #[.val (.int p0)] [(.int p0)] := own_iloadN w d1_37 rfl
  replace w : own_W K b1 Z n0 h 0 0 41 #[.val (.int p0)] [(.int (214 : Int32)), (.int p0)] := own_sipush w d1_38 rfl
  by_cases hc : 214 < p0.toInt
  · rw [show g1_37 p0.toInt = g1_44 p0.toInt from if_pos hc]
    exact n1_44 hw p0 (own_icmpN w d1_41 rfl (by decide) hc)
  · rw [show g1_37 p0.toInt = g1_191 p0.toInt from if_neg hc]
    exact n1_191 hw p0 (own_icmpY w d1_41 rfl (by decide) hc (by decide) (by decide))
def g1_30 (i0 : Int) : Int32 := if i0 < 192 then g1_44 i0 else g1_37 i0
theorem n1_30 {K : OwnK} {Z : State} {n0 : Nat} {h : Heap} {a0 : Array Value} (hw : ∀ d ∈ tables_1, d.before a0 Z = true) (p0 : Int32) (w : own_W K b1 Z n0 h 0 0 30 #[.val (.int p0)] []) : own_G K n0 0 0 (fun v h' => v = some (.int (g1_30 p0.toInt)) ∧ h = h') := by
  replace w : own_W K b1 Z n0 h 0 0 31 #[.val (.int p0)] [(.int p0)] := own_iloadN w d1_30 rfl
  replace w : own_W K b1 Z n0 h 0 0 34 #[.val (.int p0)] [(.int (192 : Int32)), (.int p0)] := own_sipush w d1_31 rfl
  by_cases hc : p0.toInt < 192
  · rw [show g1_30 p0.toInt = g1_44 p0.toInt from if_pos hc]
    exact n1_44 hw p0 (own_icmpY w d1_34 rfl (by decide) hc (by decide) (by decide))
  · rw [show g1_30 p0.toInt = g1_37 p0.toInt from if_neg hc]
    exact n1_37 hw p0 (own_icmpN w d1_34 rfl (by decide) hc)
def g1_24 (i0 : Int) : Int32 := if i0 = 95 then g1_191 i0 else g1_30 i0
theorem n1_24 {K : OwnK} {Z : State} {n0 : Nat} {h : Heap} {a0 : Array Value} (hw : ∀ d ∈ tables_1, d.before a0 Z = true) (p0 : Int32) (w : own_W K b1 Z n0 h 0 0 24 #[.val (.int p0)] []) : own_G K n0 0 0 (fun v h' => v = some (.int (g1_24 p0.toInt)) ∧ h = h') := by
  replace w : own_W K b1 Z n0 h 0 0 25 #[.val (.int p0)] [(.int p0)] := own_iloadN w d1_24 rfl
  replace w : own_W K b1 Z n0 h 0 0 27 #[.val (.int p0)] [(.int (95 : Int32)), (.int p0)] := own_bipush w d1_25 rfl
  by_cases hc : p0.toInt = 95
  · rw [show g1_24 p0.toInt = g1_191 p0.toInt from if_pos hc]
    exact n1_191 hw p0 (own_icmpY w d1_27 rfl (by decide) hc (by decide) (by decide))
  · rw [show g1_24 p0.toInt = g1_30 p0.toInt from if_neg hc]
    exact n1_30 hw p0 (own_icmpN w d1_27 rfl (by decide) hc)
def g1_18 (i0 : Int) : Int32 := if 90 < i0 then g1_24 i0 else g1_191 i0
theorem n1_18 {K : OwnK} {Z : State} {n0 : Nat} {h : Heap} {a0 : Array Value} (hw : ∀ d ∈ tables_1, d.before a0 Z = true) (p0 : Int32) (w : own_W K b1 Z n0 h 0 0 18 #[.val (.int p0)] []) : own_G K n0 0 0 (fun v h' => v = some (.int (g1_18 p0.toInt)) ∧ h = h') := by
  replace w : own_W K b1 Z n0 h 0 0 19 #[.val (.int p0)] [(.int p0)] := own_iloadN w d1_18 rfl
  replace w : own_W K b1 Z n0 h 0 0 21 #[.val (.int p0)] [(.int (90 : Int32)), (.int p0)] := own_bipush w d1_19 rfl
  by_cases hc : 90 < p0.toInt
  · rw [show g1_18 p0.toInt = g1_24 p0.toInt from if_pos hc]
    exact n1_24 hw p0 (own_icmpN w d1_21 rfl (by decide) hc)
  · rw [show g1_18 p0.toInt = g1_191 p0.toInt from if_neg hc]
    exact n1_191 hw p0 (own_icmpY w d1_21 rfl (by decide) hc (by decide) (by decide))
def g1_12 (i0 : Int) : Int32 := if i0 < 65 then g1_24 i0 else g1_18 i0
theorem n1_12 {K : OwnK} {Z : State} {n0 : Nat} {h : Heap} {a0 : Array Value} (hw : ∀ d ∈ tables_1, d.before a0 Z = true) (p0 : Int32) (w : own_W K b1 Z n0 h 0 0 12 #[.val (.int p0)] []) : own_G K n0 0 0 (fun v h' => v = some (.int (g1_12 p0.toInt)) ∧ h = h') := by
  replace w : own_W K b1 Z n0 h 0 0 13 #[.val (.int p0)] [(.int p0)] := own_iloadN w d1_12 rfl
  replace w : own_W K b1 Z n0 h 0 0 15 #[.val (.int p0)] [(.int (65 : Int32)), (.int p0)] := own_bipush w d1_13 rfl
  by_cases hc : p0.toInt < 65
  · rw [show g1_12 p0.toInt = g1_24 p0.toInt from if_pos hc]
    exact n1_24 hw p0 (own_icmpY w d1_15 rfl (by decide) hc (by decide) (by decide))
  · rw [show g1_12 p0.toInt = g1_18 p0.toInt from if_neg hc]
    exact n1_18 hw p0 (own_icmpN w d1_15 rfl (by decide) hc)
def g1_6 (i0 : Int) : Int32 := if 122 < i0 then g1_12 i0 else g1_191 i0
theorem n1_6 {K : OwnK} {Z : State} {n0 : Nat} {h : Heap} {a0 : Array Value} (hw : ∀ d ∈ tables_1, d.before a0 Z = true) (p0 : Int32) (w : own_W K b1 Z n0 h 0 0 6 #[.val (.int p0)] []) : own_G K n0 0 0 (fun v h' => v = some (.int (g1_6 p0.toInt)) ∧ h = h') := by
  replace w : own_W K b1 Z n0 h 0 0 7 #[.val (.int p0)] [(.int p0)] := own_iloadN w d1_6 rfl
  replace w : own_W K b1 Z n0 h 0 0 9 #[.val (.int p0)] [(.int (122 : Int32)), (.int p0)] := own_bipush w d1_7 rfl
  by_cases hc : 122 < p0.toInt
  · rw [show g1_6 p0.toInt = g1_12 p0.toInt from if_pos hc]
    exact n1_12 hw p0 (own_icmpN w d1_9 rfl (by decide) hc)
  · rw [show g1_6 p0.toInt = g1_191 p0.toInt from if_neg hc]
    exact n1_191 hw p0 (own_icmpY w d1_9 rfl (by decide) hc (by decide) (by decide))
def g1_0 (i0 : Int) : Int32 := if i0 < 97 then g1_12 i0 else g1_6 i0
theorem n1_0 {K : OwnK} {Z : State} {n0 : Nat} {h : Heap} {a0 : Array Value} (hw : ∀ d ∈ tables_1, d.before a0 Z = true) (p0 : Int32) (w : own_W K b1 Z n0 h 0 0 0 #[.val (.int p0)] []) : own_G K n0 0 0 (fun v h' => v = some (.int (g1_0 p0.toInt)) ∧ h = h') := by
  replace w : own_W K b1 Z n0 h 0 0 1 #[.val (.int p0)] [(.int p0)] := own_iloadN w d1_0 rfl
  replace w : own_W K b1 Z n0 h 0 0 3 #[.val (.int p0)] [(.int (97 : Int32)), (.int p0)] := own_bipush w d1_1 rfl
  by_cases hc : p0.toInt < 97
  · rw [show g1_0 p0.toInt = g1_12 p0.toInt from if_pos hc]
    exact n1_12 hw p0 (own_icmpY w d1_3 rfl (by decide) hc (by decide) (by decide))
  · rw [show g1_0 p0.toInt = g1_6 p0.toInt from if_neg hc]
    exact n1_6 hw p0 (own_icmpN w d1_3 rfl (by decide) hc)
theorem rm1 {Z : State} {n0 : Nat} {h : Heap} {a0 : Array Value} (hw : ∀ d ∈ tables_1, d.before a0 Z = true) (p0 : Int32) (hn : n0 ≤ h.size) : ∀ l, own_M l Z n0 b1 #[(.int p0)] h (fun v h' => v = some (.int (g1_0 p0.toInt)) ∧ h = h') :=
  fun l => own_enter hn pn_1 (ef_1 p0) (fun K w => n1_0 hw p0 w)
theorem d3_0 : decode method_2_code 0 = .ok (.iload_n 0, 1) := by decide +kernel
theorem d3_1 : decode method_2_code 1 = .ok (.iload_n 1, 1) := by decide +kernel
theorem d3_2 : decode method_2_code 2 = .ok (.if_icmp .lt 12, 3) := by decide +kernel
theorem d3_5 : decode method_2_code 5 = .ok (.iload_n 0, 1) := by decide +kernel
theorem d3_6 : decode method_2_code 6 = .ok (.iload_n 2, 1) := by decide +kernel
theorem d3_7 : decode method_2_code 7 = .ok (.if_icmp .gt 7, 3) := by decide +kernel
theorem d3_10 : decode method_2_code 10 = .ok (.iconst 1, 1) := by decide +kernel
theorem d3_11 : decode method_2_code 11 = .ok (.goto 4, 3) := by decide +kernel
theorem d3_14 : decode method_2_code 14 = .ok (.iconst 0, 1) := by decide +kernel
theorem d3_15 : decode method_2_code 15 = .ok (.ireturn, 1) := by decide +kernel
abbrev b3 : OwnB := (⟨"dev/stepflow/xdm/XmlCharsIsNameStartPinLaw", "inr", "(III)Z"⟩, method_2_code, 3, (some .boolean), ({ frames := 0, cells := 0, slots := 0, locals := 0 } : Room))
theorem pn_3 : plainName "dev/stepflow/xdm/XmlCharsIsNameStartPinLaw" = true := by first | (simp [plainName, overriddenIn]; done) | decide +kernel
theorem pd_3 : parseMethodDescriptor "(III)Z" = some ⟨[.int, .int, .int], (some .boolean)⟩ := by decide +kernel
theorem ef_3 (p0 : Int32) (p1 : Int32) (p2 : Int32) (m : MethodId) : entryFrame m #[(.int p0), (.int p1), (.int p2)] 3 = mkF m 0 #[.val (.int p0), .val (.int p1), .val (.int p2)] [] := by first | (simp [entryFrame, mkF, argsToLocals, Value.category, maxLocals]; done) | rfl
def g3_14 (i0 : Int) (i1 : Int) (i2 : Int) : Int32 := 0
theorem n3_14 {K : OwnK} {Z : State} {n0 : Nat} {h : Heap} {a0 : Array Value} (hw : ∀ d ∈ tables_1, d.before a0 Z = true) (p0 : Int32) (p1 : Int32) (p2 : Int32) (w : own_W K b3 Z n0 h 0 0 14 #[.val (.int p0), .val (.int p1), .val (.int p2)] []) : own_G K n0 0 0 (fun v h' => v = some (.int (g3_14 p0.toInt p1.toInt p2.toInt)) ∧ h = h') := by
  replace w : own_W K b3 Z n0 h 0 0 15 #[.val (.int p0), .val (.int p1), .val (.int p2)] [(.int (0 : Int32))] := own_iconst w d3_14 rfl
  exact own_retZ w d3_15 rfl (Or.inl rfl) ⟨congrArg (fun z => some (Value.int z)) own_n0, rfl⟩ (Nat.le_refl _) (Nat.le_refl _)
def g3_10 (i0 : Int) (i1 : Int) (i2 : Int) : Int32 := 1
theorem n3_10 {K : OwnK} {Z : State} {n0 : Nat} {h : Heap} {a0 : Array Value} (hw : ∀ d ∈ tables_1, d.before a0 Z = true) (p0 : Int32) (p1 : Int32) (p2 : Int32) (w : own_W K b3 Z n0 h 0 0 10 #[.val (.int p0), .val (.int p1), .val (.int p2)] []) : own_G K n0 0 0 (fun v h' => v = some (.int (g3_10 p0.toInt p1.toInt p2.toInt)) ∧ h = h') := by
  replace w : own_W K b3 Z n0 h 0 0 11 #[.val (.int p0), .val (.int p1), .val (.int p2)] [(.int (1 : Int32))] := own_iconst w d3_10 rfl
  replace w : own_W K b3 Z n0 h 0 0 15 #[.val (.int p0), .val (.int p1), .val (.int p2)] [(.int (1 : Int32))] := own_goto w d3_11 (by decide) (by decide)
  exact own_retZ w d3_15 rfl (Or.inl rfl) ⟨congrArg (fun z => some (Value.int z)) own_n1, rfl⟩ (Nat.le_refl _) (Nat.le_refl _)
def g3_5 (i0 : Int) (i1 : Int) (i2 : Int) : Int32 := if i2 < i0 then g3_14 i0 i1 i2 else g3_10 i0 i1 i2
theorem n3_5 {K : OwnK} {Z : State} {n0 : Nat} {h : Heap} {a0 : Array Value} (hw : ∀ d ∈ tables_1, d.before a0 Z = true) (p0 : Int32) (p1 : Int32) (p2 : Int32) (w : own_W K b3 Z n0 h 0 0 5 #[.val (.int p0), .val (.int p1), .val (.int p2)] []) : own_G K n0 0 0 (fun v h' => v = some (.int (g3_5 p0.toInt p1.toInt p2.toInt)) ∧ h = h') := by
  replace w : own_W K b3 Z n0 h 0 0 6 #[.val (.int p0), .val (.int p1), .val (.int p2)] [(.int p0)] := own_iloadN w d3_5 rfl
  replace w : own_W K b3 Z n0 h 0 0 7 #[.val (.int p0), .val (.int p1), .val (.int p2)] [(.int p2), (.int p0)] := own_iloadN w d3_6 rfl
  by_cases hc : p2.toInt < p0.toInt
  · rw [show g3_5 p0.toInt p1.toInt p2.toInt = g3_14 p0.toInt p1.toInt p2.toInt from if_pos hc]
    exact n3_14 hw p0 p1 p2 (own_icmpY w d3_7 rfl rfl hc (by decide) (by decide))
  · rw [show g3_5 p0.toInt p1.toInt p2.toInt = g3_10 p0.toInt p1.toInt p2.toInt from if_neg hc]
    exact n3_10 hw p0 p1 p2 (own_icmpN w d3_7 rfl rfl hc)
def g3_0 (i0 : Int) (i1 : Int) (i2 : Int) : Int32 := if i0 < i1 then g3_14 i0 i1 i2 else g3_5 i0 i1 i2
theorem n3_0 {K : OwnK} {Z : State} {n0 : Nat} {h : Heap} {a0 : Array Value} (hw : ∀ d ∈ tables_1, d.before a0 Z = true) (p0 : Int32) (p1 : Int32) (p2 : Int32) (w : own_W K b3 Z n0 h 0 0 0 #[.val (.int p0), .val (.int p1), .val (.int p2)] []) : own_G K n0 0 0 (fun v h' => v = some (.int (g3_0 p0.toInt p1.toInt p2.toInt)) ∧ h = h') := by
  replace w : own_W K b3 Z n0 h 0 0 1 #[.val (.int p0), .val (.int p1), .val (.int p2)] [(.int p0)] := own_iloadN w d3_0 rfl
  replace w : own_W K b3 Z n0 h 0 0 2 #[.val (.int p0), .val (.int p1), .val (.int p2)] [(.int p1), (.int p0)] := own_iloadN w d3_1 rfl
  by_cases hc : p0.toInt < p1.toInt
  · rw [show g3_0 p0.toInt p1.toInt p2.toInt = g3_14 p0.toInt p1.toInt p2.toInt from if_pos hc]
    exact n3_14 hw p0 p1 p2 (own_icmpY w d3_2 rfl rfl hc (by decide) (by decide))
  · rw [show g3_0 p0.toInt p1.toInt p2.toInt = g3_5 p0.toInt p1.toInt p2.toInt from if_neg hc]
    exact n3_5 hw p0 p1 p2 (own_icmpN w d3_2 rfl rfl hc)
theorem rm3 {Z : State} {n0 : Nat} {h : Heap} {a0 : Array Value} (hw : ∀ d ∈ tables_1, d.before a0 Z = true) (p0 : Int32) (p1 : Int32) (p2 : Int32) (hn : n0 ≤ h.size) : ∀ l, own_M l Z n0 b3 #[(.int p0), (.int p1), (.int p2)] h (fun v h' => v = some (.int (g3_0 p0.toInt p1.toInt p2.toInt)) ∧ h = h') :=
  fun l => own_enter hn pn_3 (ef_3 p0 p1 p2) (fun K w => n3_0 hw p0 p1 p2 w)
theorem own_in1 {i lo hi : Int} (h1 : ¬ i < lo) (h2 : ¬ hi < i) : ¬ (g3_0 i lo hi).toInt = 0 := by
  rw [show g3_0 i lo hi = g3_5 i lo hi from if_neg h1, show g3_5 i lo hi = 1 from if_neg h2]; decide
theorem own_in0l {i lo hi : Int} (h1 : i < lo) : (g3_0 i lo hi).toInt = 0 := by
  rw [show g3_0 i lo hi = 0 from if_pos h1]; decide
theorem own_in0r {i lo hi : Int} (h2 : hi < i) : (g3_0 i lo hi).toInt = 0 := by
  by_cases h1 : i < lo
  · exact own_in0l h1
  rw [show g3_0 i lo hi = g3_5 i lo hi from if_neg h1, show g3_5 i lo hi = 0 from if_pos h2]; decide
theorem d2_0 : decode method_3_code 0 = .ok (.iload_n 0, 1) := by decide +kernel
theorem d2_1 : decode method_3_code 1 = .ok (.bipush 65, 2) := by decide +kernel
theorem d2_3 : decode method_3_code 3 = .ok (.if_icmp .lt 9, 3) := by decide +kernel
theorem d2_6 : decode method_3_code 6 = .ok (.iload_n 0, 1) := by decide +kernel
theorem d2_7 : decode method_3_code 7 = .ok (.ldc 7, 2) := by decide +kernel
theorem d2_9 : decode method_3_code 9 = .ok (.if_icmp .le 5, 3) := by decide +kernel
theorem d2_12 : decode method_3_code 12 = .ok (.iconst 0, 1) := by decide +kernel
theorem d2_13 : decode method_3_code 13 = .ok (.ireturn, 1) := by decide +kernel
theorem d2_14 : decode method_3_code 14 = .ok (.iload_n 0, 1) := by decide +kernel
theorem d2_15 : decode method_3_code 15 = .ok (.bipush 91, 2) := by decide +kernel
theorem d2_17 : decode method_3_code 17 = .ok (.bipush 94, 2) := by decide +kernel
theorem d2_19 : decode method_3_code 19 = .ok (.invokestatic 8, 3) := by decide +kernel
theorem d2_22 : decode method_3_code 22 = .ok (.ifCond .ne 140, 3) := by decide +kernel
theorem d2_25 : decode method_3_code 25 = .ok (.iload_n 0, 1) := by decide +kernel
theorem d2_26 : decode method_3_code 26 = .ok (.bipush 96, 2) := by decide +kernel
theorem d2_28 : decode method_3_code 28 = .ok (.if_icmp .eq 134, 3) := by decide +kernel
theorem d2_31 : decode method_3_code 31 = .ok (.iload_n 0, 1) := by decide +kernel
theorem d2_32 : decode method_3_code 32 = .ok (.bipush 123, 2) := by decide +kernel
theorem d2_34 : decode method_3_code 34 = .ok (.sipush 191, 3) := by decide +kernel
theorem d2_37 : decode method_3_code 37 = .ok (.invokestatic 8, 3) := by decide +kernel
theorem d2_40 : decode method_3_code 40 = .ok (.ifCond .ne 122, 3) := by decide +kernel
theorem d2_43 : decode method_3_code 43 = .ok (.iload_n 0, 1) := by decide +kernel
theorem d2_44 : decode method_3_code 44 = .ok (.sipush 215, 3) := by decide +kernel
theorem d2_47 : decode method_3_code 47 = .ok (.if_icmp .eq 115, 3) := by decide +kernel
theorem d2_50 : decode method_3_code 50 = .ok (.iload_n 0, 1) := by decide +kernel
theorem d2_51 : decode method_3_code 51 = .ok (.sipush 247, 3) := by decide +kernel
theorem d2_54 : decode method_3_code 54 = .ok (.if_icmp .eq 108, 3) := by decide +kernel
theorem d2_57 : decode method_3_code 57 = .ok (.iload_n 0, 1) := by decide +kernel
theorem d2_58 : decode method_3_code 58 = .ok (.sipush 768, 3) := by decide +kernel
theorem d2_61 : decode method_3_code 61 = .ok (.sipush 879, 3) := by decide +kernel
theorem d2_64 : decode method_3_code 64 = .ok (.invokestatic 8, 3) := by decide +kernel
theorem d2_67 : decode method_3_code 67 = .ok (.ifCond .ne 95, 3) := by decide +kernel
theorem d2_70 : decode method_3_code 70 = .ok (.iload_n 0, 1) := by decide +kernel
theorem d2_71 : decode method_3_code 71 = .ok (.sipush 894, 3) := by decide +kernel
theorem d2_74 : decode method_3_code 74 = .ok (.if_icmp .eq 88, 3) := by decide +kernel
theorem d2_77 : decode method_3_code 77 = .ok (.iload_n 0, 1) := by decide +kernel
theorem d2_78 : decode method_3_code 78 = .ok (.sipush 8192, 3) := by decide +kernel
theorem d2_81 : decode method_3_code 81 = .ok (.sipush 8203, 3) := by decide +kernel
theorem d2_84 : decode method_3_code 84 = .ok (.invokestatic 8, 3) := by decide +kernel
theorem d2_87 : decode method_3_code 87 = .ok (.ifCond .ne 75, 3) := by decide +kernel
theorem d2_90 : decode method_3_code 90 = .ok (.iload_n 0, 1) := by decide +kernel
theorem d2_91 : decode method_3_code 91 = .ok (.sipush 8206, 3) := by decide +kernel
theorem d2_94 : decode method_3_code 94 = .ok (.sipush 8303, 3) := by decide +kernel
theorem d2_97 : decode method_3_code 97 = .ok (.invokestatic 8, 3) := by decide +kernel
theorem d2_100 : decode method_3_code 100 = .ok (.ifCond .ne 62, 3) := by decide +kernel
theorem d2_103 : decode method_3_code 103 = .ok (.iload_n 0, 1) := by decide +kernel
theorem d2_104 : decode method_3_code 104 = .ok (.sipush 8592, 3) := by decide +kernel
theorem d2_107 : decode method_3_code 107 = .ok (.sipush 11263, 3) := by decide +kernel
theorem d2_110 : decode method_3_code 110 = .ok (.invokestatic 8, 3) := by decide +kernel
theorem d2_113 : decode method_3_code 113 = .ok (.ifCond .ne 49, 3) := by decide +kernel
theorem d2_116 : decode method_3_code 116 = .ok (.iload_n 0, 1) := by decide +kernel
theorem d2_117 : decode method_3_code 117 = .ok (.sipush 12272, 3) := by decide +kernel
theorem d2_120 : decode method_3_code 120 = .ok (.sipush 12288, 3) := by decide +kernel
theorem d2_123 : decode method_3_code 123 = .ok (.invokestatic 8, 3) := by decide +kernel
theorem d2_126 : decode method_3_code 126 = .ok (.ifCond .ne 36, 3) := by decide +kernel
theorem d2_129 : decode method_3_code 129 = .ok (.iload_n 0, 1) := by decide +kernel
theorem d2_130 : decode method_3_code 130 = .ok (.ldc 14, 2) := by decide +kernel
theorem d2_132 : decode method_3_code 132 = .ok (.ldc 15, 2) := by decide +kernel
theorem d2_134 : decode method_3_code 134 = .ok (.invokestatic 8, 3) := by decide +kernel
theorem d2_137 : decode method_3_code 137 = .ok (.ifCond .ne 25, 3) := by decide +kernel
theorem d2_140 : decode method_3_code 140 = .ok (.iload_n 0, 1) := by decide +kernel
theorem d2_141 : decode method_3_code 141 = .ok (.ldc 16, 2) := by decide +kernel
theorem d2_143 : decode method_3_code 143 = .ok (.ldc 17, 2) := by decide +kernel
theorem d2_145 : decode method_3_code 145 = .ok (.invokestatic 8, 3) := by decide +kernel
theorem d2_148 : decode method_3_code 148 = .ok (.ifCond .ne 14, 3) := by decide +kernel
theorem d2_151 : decode method_3_code 151 = .ok (.iload_n 0, 1) := by decide +kernel
theorem d2_152 : decode method_3_code 152 = .ok (.ldc 18, 2) := by decide +kernel
theorem d2_154 : decode method_3_code 154 = .ok (.ldc 19, 2) := by decide +kernel
theorem d2_156 : decode method_3_code 156 = .ok (.invokestatic 8, 3) := by decide +kernel
theorem d2_159 : decode method_3_code 159 = .ok (.ifCond .eq 5, 3) := by decide +kernel
theorem d2_162 : decode method_3_code 162 = .ok (.iconst 0, 1) := by decide +kernel
theorem d2_163 : decode method_3_code 163 = .ok (.ireturn, 1) := by decide +kernel
theorem d2_164 : decode method_3_code 164 = .ok (.iconst 1, 1) := by decide +kernel
theorem d2_165 : decode method_3_code 165 = .ok (.ireturn, 1) := by decide +kernel
abbrev b2 : OwnB := (⟨"dev/stepflow/xdm/XmlCharsIsNameStartPinLaw", "ref", "(I)Z"⟩, method_3_code, 1, (some .boolean), ({ frames := 1, cells := 0, slots := 0, locals := 14 } : Room))
theorem pn_2 : plainName "dev/stepflow/xdm/XmlCharsIsNameStartPinLaw" = true := by first | (simp [plainName, overriddenIn]; done) | decide +kernel
theorem pd_2 : parseMethodDescriptor "(I)Z" = some ⟨[.int], (some .boolean)⟩ := by decide +kernel
theorem ef_2 (p0 : Int32) (m : MethodId) : entryFrame m #[(.int p0)] 1 = mkF m 0 #[.val (.int p0)] [] := by first | (simp [entryFrame, mkF, argsToLocals, Value.category, maxLocals]; done) | rfl
def g2_12 (i0 : Int) : Int32 := 0
theorem n2_12 {K : OwnK} {Z : State} {n0 : Nat} {h : Heap} {a0 : Array Value} (hw : ∀ d ∈ tables_1, d.before a0 Z = true) (p0 : Int32) (w : own_W K b2 Z n0 h 0 0 12 #[.val (.int p0)] []) : own_G K n0 0 0 (fun v h' => v = some (.int (g2_12 p0.toInt)) ∧ h = h') := by
  replace w : own_W K b2 Z n0 h 0 0 13 #[.val (.int p0)] [(.int (0 : Int32))] := own_iconst w d2_12 rfl
  exact own_retZ w d2_13 rfl (Or.inl rfl) ⟨congrArg (fun z => some (Value.int z)) own_n0, rfl⟩ (Nat.le_refl _) (Nat.le_refl _)
def g2_162 (i0 : Int) : Int32 := 0
theorem n2_162 {K : OwnK} {Z : State} {n0 : Nat} {h : Heap} {a0 : Array Value} (hw : ∀ d ∈ tables_1, d.before a0 Z = true) (p0 : Int32) (w : own_W K b2 Z n0 h 0 0 162 #[.val (.int p0)] []) : own_G K n0 0 0 (fun v h' => v = some (.int (g2_162 p0.toInt)) ∧ h = h') := by
  replace w : own_W K b2 Z n0 h 0 0 163 #[.val (.int p0)] [(.int (0 : Int32))] := own_iconst w d2_162 rfl
  exact own_retZ w d2_163 rfl (Or.inl rfl) ⟨congrArg (fun z => some (Value.int z)) own_n0, rfl⟩ (Nat.le_refl _) (Nat.le_refl _)
def g2_164 (i0 : Int) : Int32 := 1
theorem n2_164 {K : OwnK} {Z : State} {n0 : Nat} {h : Heap} {a0 : Array Value} (hw : ∀ d ∈ tables_1, d.before a0 Z = true) (p0 : Int32) (w : own_W K b2 Z n0 h 0 0 164 #[.val (.int p0)] []) : own_G K n0 0 0 (fun v h' => v = some (.int (g2_164 p0.toInt)) ∧ h = h') := by
  replace w : own_W K b2 Z n0 h 0 0 165 #[.val (.int p0)] [(.int (1 : Int32))] := own_iconst w d2_164 rfl
  exact own_retZ w d2_165 rfl (Or.inl rfl) ⟨congrArg (fun z => some (Value.int z)) own_n1, rfl⟩ (Nat.le_refl _) (Nat.le_refl _)
def g2_151 (i0 : Int) : Int32 := if (g3_0 i0 65534 65535).toInt = 0 then g2_164 i0 else g2_162 i0
theorem n2_151 {K : OwnK} {Z : State} {n0 : Nat} {h : Heap} {a0 : Array Value} (hw : ∀ d ∈ tables_1, d.before a0 Z = true) (p0 : Int32) (w : own_W K b2 Z n0 h 0 0 151 #[.val (.int p0)] []) : own_G K n0 0 0 (fun v h' => v = some (.int (g2_151 p0.toInt)) ∧ h = h') := by
  replace w : own_W K b2 Z n0 h 0 0 152 #[.val (.int p0)] [(.int p0)] := own_iloadN w d2_151 rfl
  replace w : own_W K b2 Z n0 h 0 0 154 #[.val (.int p0)] [(.int (65534 : Int32)), (.int p0)] := own_ldc w d2_152 (hw _ (List.mem_of_getElem? (i := 5) rfl))
  replace w : own_W K b2 Z n0 h 0 0 156 #[.val (.int p0)] [(.int (65535 : Int32)), (.int (65534 : Int32)), (.int p0)] := own_ldc w d2_154 (hw _ (List.mem_of_getElem? (i := 26) rfl))
  obtain ⟨_, _, ⟨rfl, rfl⟩, w⟩ := own_callS (By := b3) [(.int p0), (.int (65534 : Int32)), (.int (65535 : Int32))] w rfl d2_156 (hw _ (List.mem_of_getElem? (i := 21) rfl)) (hw _ (List.mem_of_getElem? (i := 22) rfl)) (hw _ (List.mem_of_getElem? (i := 18) rfl)) (hw _ (List.mem_of_getElem? (i := 23) rfl)) (rm3 hw p0 (65534 : Int32) (65535 : Int32) (own_size w)) (by decide) pd_3 rfl rfl (by decide) (Nat.le_of_ble_eq_true rfl) (by decide) (by decide)
  replace w : own_W K b2 Z n0 h 0 0 159 #[.val (.int p0)] [(.int (g3_0 p0.toInt 65534 65535))] := w
  by_cases hc : (g3_0 p0.toInt 65534 65535).toInt = 0
  · rw [show g2_151 p0.toInt = g2_164 p0.toInt from if_pos hc]
    exact n2_164 hw p0 (own_ifY w d2_159 rfl hc (by decide) (by decide))
  · rw [show g2_151 p0.toInt = g2_162 p0.toInt from if_neg hc]
    exact n2_162 hw p0 (own_ifN w d2_159 rfl hc)
def g2_140 (i0 : Int) : Int32 := if (g3_0 i0 64976 65007).toInt = 0 then g2_151 i0 else g2_162 i0
theorem n2_140 {K : OwnK} {Z : State} {n0 : Nat} {h : Heap} {a0 : Array Value} (hw : ∀ d ∈ tables_1, d.before a0 Z = true) (p0 : Int32) (w : own_W K b2 Z n0 h 0 0 140 #[.val (.int p0)] []) : own_G K n0 0 0 (fun v h' => v = some (.int (g2_140 p0.toInt)) ∧ h = h') := by
  replace w : own_W K b2 Z n0 h 0 0 141 #[.val (.int p0)] [(.int p0)] := own_iloadN w d2_140 rfl
  replace w : own_W K b2 Z n0 h 0 0 143 #[.val (.int p0)] [(.int (64976 : Int32)), (.int p0)] := own_ldc w d2_141 (hw _ (List.mem_of_getElem? (i := 3) rfl))
  replace w : own_W K b2 Z n0 h 0 0 145 #[.val (.int p0)] [(.int (65007 : Int32)), (.int (64976 : Int32)), (.int p0)] := own_ldc w d2_143 (hw _ (List.mem_of_getElem? (i := 25) rfl))
  obtain ⟨_, _, ⟨rfl, rfl⟩, w⟩ := own_callS (By := b3) [(.int p0), (.int (64976 : Int32)), (.int (65007 : Int32))] w rfl d2_145 (hw _ (List.mem_of_getElem? (i := 21) rfl)) (hw _ (List.mem_of_getElem? (i := 22) rfl)) (hw _ (List.mem_of_getElem? (i := 18) rfl)) (hw _ (List.mem_of_getElem? (i := 23) rfl)) (rm3 hw p0 (64976 : Int32) (65007 : Int32) (own_size w)) (by decide) pd_3 rfl rfl (by decide) (Nat.le_of_ble_eq_true rfl) (by decide) (by decide)
  replace w : own_W K b2 Z n0 h 0 0 148 #[.val (.int p0)] [(.int (g3_0 p0.toInt 64976 65007))] := w
  by_cases hc : (g3_0 p0.toInt 64976 65007).toInt = 0
  · rw [show g2_140 p0.toInt = g2_151 p0.toInt from if_pos hc]
    exact n2_151 hw p0 (own_ifN w d2_148 rfl hc)
  · rw [show g2_140 p0.toInt = g2_162 p0.toInt from if_neg hc]
    exact n2_162 hw p0 (own_ifY w d2_148 rfl hc (by decide) (by decide))
def g2_129 (i0 : Int) : Int32 := if (g3_0 i0 55296 63743).toInt = 0 then g2_140 i0 else g2_162 i0
theorem n2_129 {K : OwnK} {Z : State} {n0 : Nat} {h : Heap} {a0 : Array Value} (hw : ∀ d ∈ tables_1, d.before a0 Z = true) (p0 : Int32) (w : own_W K b2 Z n0 h 0 0 129 #[.val (.int p0)] []) : own_G K n0 0 0 (fun v h' => v = some (.int (g2_129 p0.toInt)) ∧ h = h') := by
  replace w : own_W K b2 Z n0 h 0 0 130 #[.val (.int p0)] [(.int p0)] := own_iloadN w d2_129 rfl
  replace w : own_W K b2 Z n0 h 0 0 132 #[.val (.int p0)] [(.int (55296 : Int32)), (.int p0)] := own_ldc w d2_130 (hw _ (List.mem_of_getElem? (i := 1) rfl))
  replace w : own_W K b2 Z n0 h 0 0 134 #[.val (.int p0)] [(.int (63743 : Int32)), (.int (55296 : Int32)), (.int p0)] := own_ldc w d2_132 (hw _ (List.mem_of_getElem? (i := 24) rfl))
  obtain ⟨_, _, ⟨rfl, rfl⟩, w⟩ := own_callS (By := b3) [(.int p0), (.int (55296 : Int32)), (.int (63743 : Int32))] w rfl d2_134 (hw _ (List.mem_of_getElem? (i := 21) rfl)) (hw _ (List.mem_of_getElem? (i := 22) rfl)) (hw _ (List.mem_of_getElem? (i := 18) rfl)) (hw _ (List.mem_of_getElem? (i := 23) rfl)) (rm3 hw p0 (55296 : Int32) (63743 : Int32) (own_size w)) (by decide) pd_3 rfl rfl (by decide) (Nat.le_of_ble_eq_true rfl) (by decide) (by decide)
  replace w : own_W K b2 Z n0 h 0 0 137 #[.val (.int p0)] [(.int (g3_0 p0.toInt 55296 63743))] := w
  by_cases hc : (g3_0 p0.toInt 55296 63743).toInt = 0
  · rw [show g2_129 p0.toInt = g2_140 p0.toInt from if_pos hc]
    exact n2_140 hw p0 (own_ifN w d2_137 rfl hc)
  · rw [show g2_129 p0.toInt = g2_162 p0.toInt from if_neg hc]
    exact n2_162 hw p0 (own_ifY w d2_137 rfl hc (by decide) (by decide))
def g2_116 (i0 : Int) : Int32 := if (g3_0 i0 12272 12288).toInt = 0 then g2_129 i0 else g2_162 i0
theorem n2_116 {K : OwnK} {Z : State} {n0 : Nat} {h : Heap} {a0 : Array Value} (hw : ∀ d ∈ tables_1, d.before a0 Z = true) (p0 : Int32) (w : own_W K b2 Z n0 h 0 0 116 #[.val (.int p0)] []) : own_G K n0 0 0 (fun v h' => v = some (.int (g2_116 p0.toInt)) ∧ h = h') := by
  replace w : own_W K b2 Z n0 h 0 0 117 #[.val (.int p0)] [(.int p0)] := own_iloadN w d2_116 rfl
  replace w : own_W K b2 Z n0 h 0 0 120 #[.val (.int p0)] [(.int (12272 : Int32)), (.int p0)] := own_sipush w d2_117 rfl
  replace w : own_W K b2 Z n0 h 0 0 123 #[.val (.int p0)] [(.int (12288 : Int32)), (.int (12272 : Int32)), (.int p0)] := own_sipush w d2_120 rfl
  obtain ⟨_, _, ⟨rfl, rfl⟩, w⟩ := own_callS (By := b3) [(.int p0), (.int (12272 : Int32)), (.int (12288 : Int32))] w rfl d2_123 (hw _ (List.mem_of_getElem? (i := 21) rfl)) (hw _ (List.mem_of_getElem? (i := 22) rfl)) (hw _ (List.mem_of_getElem? (i := 18) rfl)) (hw _ (List.mem_of_getElem? (i := 23) rfl)) (rm3 hw p0 (12272 : Int32) (12288 : Int32) (own_size w)) (by decide) pd_3 rfl rfl (by decide) (Nat.le_of_ble_eq_true rfl) (by decide) (by decide)
  replace w : own_W K b2 Z n0 h 0 0 126 #[.val (.int p0)] [(.int (g3_0 p0.toInt 12272 12288))] := w
  by_cases hc : (g3_0 p0.toInt 12272 12288).toInt = 0
  · rw [show g2_116 p0.toInt = g2_129 p0.toInt from if_pos hc]
    exact n2_129 hw p0 (own_ifN w d2_126 rfl hc)
  · rw [show g2_116 p0.toInt = g2_162 p0.toInt from if_neg hc]
    exact n2_162 hw p0 (own_ifY w d2_126 rfl hc (by decide) (by decide))
def g2_103 (i0 : Int) : Int32 := if (g3_0 i0 8592 11263).toInt = 0 then g2_116 i0 else g2_162 i0
theorem n2_103 {K : OwnK} {Z : State} {n0 : Nat} {h : Heap} {a0 : Array Value} (hw : ∀ d ∈ tables_1, d.before a0 Z = true) (p0 : Int32) (w : own_W K b2 Z n0 h 0 0 103 #[.val (.int p0)] []) : own_G K n0 0 0 (fun v h' => v = some (.int (g2_103 p0.toInt)) ∧ h = h') := by
  replace w : own_W K b2 Z n0 h 0 0 104 #[.val (.int p0)] [(.int p0)] := own_iloadN w d2_103 rfl
  replace w : own_W K b2 Z n0 h 0 0 107 #[.val (.int p0)] [(.int (8592 : Int32)), (.int p0)] := own_sipush w d2_104 rfl
  replace w : own_W K b2 Z n0 h 0 0 110 #[.val (.int p0)] [(.int (11263 : Int32)), (.int (8592 : Int32)), (.int p0)] := own_sipush w d2_107 rfl
  obtain ⟨_, _, ⟨rfl, rfl⟩, w⟩ := own_callS (By := b3) [(.int p0), (.int (8592 : Int32)), (.int (11263 : Int32))] w rfl d2_110 (hw _ (List.mem_of_getElem? (i := 21) rfl)) (hw _ (List.mem_of_getElem? (i := 22) rfl)) (hw _ (List.mem_of_getElem? (i := 18) rfl)) (hw _ (List.mem_of_getElem? (i := 23) rfl)) (rm3 hw p0 (8592 : Int32) (11263 : Int32) (own_size w)) (by decide) pd_3 rfl rfl (by decide) (Nat.le_of_ble_eq_true rfl) (by decide) (by decide)
  replace w : own_W K b2 Z n0 h 0 0 113 #[.val (.int p0)] [(.int (g3_0 p0.toInt 8592 11263))] := w
  by_cases hc : (g3_0 p0.toInt 8592 11263).toInt = 0
  · rw [show g2_103 p0.toInt = g2_116 p0.toInt from if_pos hc]
    exact n2_116 hw p0 (own_ifN w d2_113 rfl hc)
  · rw [show g2_103 p0.toInt = g2_162 p0.toInt from if_neg hc]
    exact n2_162 hw p0 (own_ifY w d2_113 rfl hc (by decide) (by decide))
def g2_90 (i0 : Int) : Int32 := if (g3_0 i0 8206 8303).toInt = 0 then g2_103 i0 else g2_162 i0
theorem n2_90 {K : OwnK} {Z : State} {n0 : Nat} {h : Heap} {a0 : Array Value} (hw : ∀ d ∈ tables_1, d.before a0 Z = true) (p0 : Int32) (w : own_W K b2 Z n0 h 0 0 90 #[.val (.int p0)] []) : own_G K n0 0 0 (fun v h' => v = some (.int (g2_90 p0.toInt)) ∧ h = h') := by
  replace w : own_W K b2 Z n0 h 0 0 91 #[.val (.int p0)] [(.int p0)] := own_iloadN w d2_90 rfl
  replace w : own_W K b2 Z n0 h 0 0 94 #[.val (.int p0)] [(.int (8206 : Int32)), (.int p0)] := own_sipush w d2_91 rfl
  replace w : own_W K b2 Z n0 h 0 0 97 #[.val (.int p0)] [(.int (8303 : Int32)), (.int (8206 : Int32)), (.int p0)] := own_sipush w d2_94 rfl
  obtain ⟨_, _, ⟨rfl, rfl⟩, w⟩ := own_callS (By := b3) [(.int p0), (.int (8206 : Int32)), (.int (8303 : Int32))] w rfl d2_97 (hw _ (List.mem_of_getElem? (i := 21) rfl)) (hw _ (List.mem_of_getElem? (i := 22) rfl)) (hw _ (List.mem_of_getElem? (i := 18) rfl)) (hw _ (List.mem_of_getElem? (i := 23) rfl)) (rm3 hw p0 (8206 : Int32) (8303 : Int32) (own_size w)) (by decide) pd_3 rfl rfl (by decide) (Nat.le_of_ble_eq_true rfl) (by decide) (by decide)
  replace w : own_W K b2 Z n0 h 0 0 100 #[.val (.int p0)] [(.int (g3_0 p0.toInt 8206 8303))] := w
  by_cases hc : (g3_0 p0.toInt 8206 8303).toInt = 0
  · rw [show g2_90 p0.toInt = g2_103 p0.toInt from if_pos hc]
    exact n2_103 hw p0 (own_ifN w d2_100 rfl hc)
  · rw [show g2_90 p0.toInt = g2_162 p0.toInt from if_neg hc]
    exact n2_162 hw p0 (own_ifY w d2_100 rfl hc (by decide) (by decide))
def g2_77 (i0 : Int) : Int32 := if (g3_0 i0 8192 8203).toInt = 0 then g2_90 i0 else g2_162 i0
theorem n2_77 {K : OwnK} {Z : State} {n0 : Nat} {h : Heap} {a0 : Array Value} (hw : ∀ d ∈ tables_1, d.before a0 Z = true) (p0 : Int32) (w : own_W K b2 Z n0 h 0 0 77 #[.val (.int p0)] []) : own_G K n0 0 0 (fun v h' => v = some (.int (g2_77 p0.toInt)) ∧ h = h') := by
  replace w : own_W K b2 Z n0 h 0 0 78 #[.val (.int p0)] [(.int p0)] := own_iloadN w d2_77 rfl
  replace w : own_W K b2 Z n0 h 0 0 81 #[.val (.int p0)] [(.int (8192 : Int32)), (.int p0)] := own_sipush w d2_78 rfl
  replace w : own_W K b2 Z n0 h 0 0 84 #[.val (.int p0)] [(.int (8203 : Int32)), (.int (8192 : Int32)), (.int p0)] := own_sipush w d2_81 rfl
  obtain ⟨_, _, ⟨rfl, rfl⟩, w⟩ := own_callS (By := b3) [(.int p0), (.int (8192 : Int32)), (.int (8203 : Int32))] w rfl d2_84 (hw _ (List.mem_of_getElem? (i := 21) rfl)) (hw _ (List.mem_of_getElem? (i := 22) rfl)) (hw _ (List.mem_of_getElem? (i := 18) rfl)) (hw _ (List.mem_of_getElem? (i := 23) rfl)) (rm3 hw p0 (8192 : Int32) (8203 : Int32) (own_size w)) (by decide) pd_3 rfl rfl (by decide) (Nat.le_of_ble_eq_true rfl) (by decide) (by decide)
  replace w : own_W K b2 Z n0 h 0 0 87 #[.val (.int p0)] [(.int (g3_0 p0.toInt 8192 8203))] := w
  by_cases hc : (g3_0 p0.toInt 8192 8203).toInt = 0
  · rw [show g2_77 p0.toInt = g2_90 p0.toInt from if_pos hc]
    exact n2_90 hw p0 (own_ifN w d2_87 rfl hc)
  · rw [show g2_77 p0.toInt = g2_162 p0.toInt from if_neg hc]
    exact n2_162 hw p0 (own_ifY w d2_87 rfl hc (by decide) (by decide))
def g2_70 (i0 : Int) : Int32 := if i0 = 894 then g2_162 i0 else g2_77 i0
theorem n2_70 {K : OwnK} {Z : State} {n0 : Nat} {h : Heap} {a0 : Array Value} (hw : ∀ d ∈ tables_1, d.before a0 Z = true) (p0 : Int32) (w : own_W K b2 Z n0 h 0 0 70 #[.val (.int p0)] []) : own_G K n0 0 0 (fun v h' => v = some (.int (g2_70 p0.toInt)) ∧ h = h') := by
  replace w : own_W K b2 Z n0 h 0 0 71 #[.val (.int p0)] [(.int p0)] := own_iloadN w d2_70 rfl
  replace w : own_W K b2 Z n0 h 0 0 74 #[.val (.int p0)] [(.int (894 : Int32)), (.int p0)] := own_sipush w d2_71 rfl
  by_cases hc : p0.toInt = 894
  · rw [show g2_70 p0.toInt = g2_162 p0.toInt from if_pos hc]
    exact n2_162 hw p0 (own_icmpY w d2_74 rfl (by decide) hc (by decide) (by decide))
  · rw [show g2_70 p0.toInt = g2_77 p0.toInt from if_neg hc]
    exact n2_77 hw p0 (own_icmpN w d2_74 rfl (by decide) hc)
def g2_57 (i0 : Int) : Int32 := if (g3_0 i0 768 879).toInt = 0 then g2_70 i0 else g2_162 i0
theorem n2_57 {K : OwnK} {Z : State} {n0 : Nat} {h : Heap} {a0 : Array Value} (hw : ∀ d ∈ tables_1, d.before a0 Z = true) (p0 : Int32) (w : own_W K b2 Z n0 h 0 0 57 #[.val (.int p0)] []) : own_G K n0 0 0 (fun v h' => v = some (.int (g2_57 p0.toInt)) ∧ h = h') := by
  replace w : own_W K b2 Z n0 h 0 0 58 #[.val (.int p0)] [(.int p0)] := own_iloadN w d2_57 rfl
  replace w : own_W K b2 Z n0 h 0 0 61 #[.val (.int p0)] [(.int (768 : Int32)), (.int p0)] := own_sipush w d2_58 rfl
  replace w : own_W K b2 Z n0 h 0 0 64 #[.val (.int p0)] [(.int (879 : Int32)), (.int (768 : Int32)), (.int p0)] := own_sipush w d2_61 rfl
  obtain ⟨_, _, ⟨rfl, rfl⟩, w⟩ := own_callS (By := b3) [(.int p0), (.int (768 : Int32)), (.int (879 : Int32))] w rfl d2_64 (hw _ (List.mem_of_getElem? (i := 21) rfl)) (hw _ (List.mem_of_getElem? (i := 22) rfl)) (hw _ (List.mem_of_getElem? (i := 18) rfl)) (hw _ (List.mem_of_getElem? (i := 23) rfl)) (rm3 hw p0 (768 : Int32) (879 : Int32) (own_size w)) (by decide) pd_3 rfl rfl (by decide) (Nat.le_of_ble_eq_true rfl) (by decide) (by decide)
  replace w : own_W K b2 Z n0 h 0 0 67 #[.val (.int p0)] [(.int (g3_0 p0.toInt 768 879))] := w
  by_cases hc : (g3_0 p0.toInt 768 879).toInt = 0
  · rw [show g2_57 p0.toInt = g2_70 p0.toInt from if_pos hc]
    exact n2_70 hw p0 (own_ifN w d2_67 rfl hc)
  · rw [show g2_57 p0.toInt = g2_162 p0.toInt from if_neg hc]
    exact n2_162 hw p0 (own_ifY w d2_67 rfl hc (by decide) (by decide))
def g2_50 (i0 : Int) : Int32 := if i0 = 247 then g2_162 i0 else g2_57 i0
theorem n2_50 {K : OwnK} {Z : State} {n0 : Nat} {h : Heap} {a0 : Array Value} (hw : ∀ d ∈ tables_1, d.before a0 Z = true) (p0 : Int32) (w : own_W K b2 Z n0 h 0 0 50 #[.val (.int p0)] []) : own_G K n0 0 0 (fun v h' => v = some (.int (g2_50 p0.toInt)) ∧ h = h') := by
  replace w : own_W K b2 Z n0 h 0 0 51 #[.val (.int p0)] [(.int p0)] := own_iloadN w d2_50 rfl
  replace w : own_W K b2 Z n0 h 0 0 54 #[.val (.int p0)] [(.int (247 : Int32)), (.int p0)] := own_sipush w d2_51 rfl
  by_cases hc : p0.toInt = 247
  · rw [show g2_50 p0.toInt = g2_162 p0.toInt from if_pos hc]
    exact n2_162 hw p0 (own_icmpY w d2_54 rfl (by decide) hc (by decide) (by decide))
  · rw [show g2_50 p0.toInt = g2_57 p0.toInt from if_neg hc]
    exact n2_57 hw p0 (own_icmpN w d2_54 rfl (by decide) hc)
def g2_43 (i0 : Int) : Int32 := if i0 = 215 then g2_162 i0 else g2_50 i0
theorem n2_43 {K : OwnK} {Z : State} {n0 : Nat} {h : Heap} {a0 : Array Value} (hw : ∀ d ∈ tables_1, d.before a0 Z = true) (p0 : Int32) (w : own_W K b2 Z n0 h 0 0 43 #[.val (.int p0)] []) : own_G K n0 0 0 (fun v h' => v = some (.int (g2_43 p0.toInt)) ∧ h = h') := by
  replace w : own_W K b2 Z n0 h 0 0 44 #[.val (.int p0)] [(.int p0)] := own_iloadN w d2_43 rfl
  replace w : own_W K b2 Z n0 h 0 0 47 #[.val (.int p0)] [(.int (215 : Int32)), (.int p0)] := own_sipush w d2_44 rfl
  by_cases hc : p0.toInt = 215
  · rw [show g2_43 p0.toInt = g2_162 p0.toInt from if_pos hc]
    exact n2_162 hw p0 (own_icmpY w d2_47 rfl (by decide) hc (by decide) (by decide))
  · rw [show g2_43 p0.toInt = g2_50 p0.toInt from if_neg hc]
    exact n2_50 hw p0 (own_icmpN w d2_47 rfl (by decide) hc)
def g2_31 (i0 : Int) : Int32 := if (g3_0 i0 123 191).toInt = 0 then g2_43 i0 else g2_162 i0
theorem n2_31 {K : OwnK} {Z : State} {n0 : Nat} {h : Heap} {a0 : Array Value} (hw : ∀ d ∈ tables_1, d.before a0 Z = true) (p0 : Int32) (w : own_W K b2 Z n0 h 0 0 31 #[.val (.int p0)] []) : own_G K n0 0 0 (fun v h' => v = some (.int (g2_31 p0.toInt)) ∧ h = h') := by
  replace w : own_W K b2 Z n0 h 0 0 32 #[.val (.int p0)] [(.int p0)] := own_iloadN w d2_31 rfl
  replace w : own_W K b2 Z n0 h 0 0 34 #[.val (.int p0)] [(.int (123 : Int32)), (.int p0)] := own_bipush w d2_32 rfl
  replace w : own_W K b2 Z n0 h 0 0 37 #[.val (.int p0)] [(.int (191 : Int32)), (.int (123 : Int32)), (.int p0)] := own_sipush w d2_34 rfl
  obtain ⟨_, _, ⟨rfl, rfl⟩, w⟩ := own_callS (By := b3) [(.int p0), (.int (123 : Int32)), (.int (191 : Int32))] w rfl d2_37 (hw _ (List.mem_of_getElem? (i := 21) rfl)) (hw _ (List.mem_of_getElem? (i := 22) rfl)) (hw _ (List.mem_of_getElem? (i := 18) rfl)) (hw _ (List.mem_of_getElem? (i := 23) rfl)) (rm3 hw p0 (123 : Int32) (191 : Int32) (own_size w)) (by decide) pd_3 rfl rfl (by decide) (Nat.le_of_ble_eq_true rfl) (by decide) (by decide)
  replace w : own_W K b2 Z n0 h 0 0 40 #[.val (.int p0)] [(.int (g3_0 p0.toInt 123 191))] := w
  by_cases hc : (g3_0 p0.toInt 123 191).toInt = 0
  · rw [show g2_31 p0.toInt = g2_43 p0.toInt from if_pos hc]
    exact n2_43 hw p0 (own_ifN w d2_40 rfl hc)
  · rw [show g2_31 p0.toInt = g2_162 p0.toInt from if_neg hc]
    exact n2_162 hw p0 (own_ifY w d2_40 rfl hc (by decide) (by decide))
def g2_25 (i0 : Int) : Int32 := if i0 = 96 then g2_162 i0 else g2_31 i0
theorem n2_25 {K : OwnK} {Z : State} {n0 : Nat} {h : Heap} {a0 : Array Value} (hw : ∀ d ∈ tables_1, d.before a0 Z = true) (p0 : Int32) (w : own_W K b2 Z n0 h 0 0 25 #[.val (.int p0)] []) : own_G K n0 0 0 (fun v h' => v = some (.int (g2_25 p0.toInt)) ∧ h = h') := by
  replace w : own_W K b2 Z n0 h 0 0 26 #[.val (.int p0)] [(.int p0)] := own_iloadN w d2_25 rfl
  replace w : own_W K b2 Z n0 h 0 0 28 #[.val (.int p0)] [(.int (96 : Int32)), (.int p0)] := own_bipush w d2_26 rfl
  by_cases hc : p0.toInt = 96
  · rw [show g2_25 p0.toInt = g2_162 p0.toInt from if_pos hc]
    exact n2_162 hw p0 (own_icmpY w d2_28 rfl (by decide) hc (by decide) (by decide))
  · rw [show g2_25 p0.toInt = g2_31 p0.toInt from if_neg hc]
    exact n2_31 hw p0 (own_icmpN w d2_28 rfl (by decide) hc)
def g2_14 (i0 : Int) : Int32 := if (g3_0 i0 91 94).toInt = 0 then g2_25 i0 else g2_162 i0
theorem n2_14 {K : OwnK} {Z : State} {n0 : Nat} {h : Heap} {a0 : Array Value} (hw : ∀ d ∈ tables_1, d.before a0 Z = true) (p0 : Int32) (w : own_W K b2 Z n0 h 0 0 14 #[.val (.int p0)] []) : own_G K n0 0 0 (fun v h' => v = some (.int (g2_14 p0.toInt)) ∧ h = h') := by
  replace w : own_W K b2 Z n0 h 0 0 15 #[.val (.int p0)] [(.int p0)] := own_iloadN w d2_14 rfl
  replace w : own_W K b2 Z n0 h 0 0 17 #[.val (.int p0)] [(.int (91 : Int32)), (.int p0)] := own_bipush w d2_15 rfl
  replace w : own_W K b2 Z n0 h 0 0 19 #[.val (.int p0)] [(.int (94 : Int32)), (.int (91 : Int32)), (.int p0)] := own_bipush w d2_17 rfl
  obtain ⟨_, _, ⟨rfl, rfl⟩, w⟩ := own_callS (By := b3) [(.int p0), (.int (91 : Int32)), (.int (94 : Int32))] w rfl d2_19 (hw _ (List.mem_of_getElem? (i := 21) rfl)) (hw _ (List.mem_of_getElem? (i := 22) rfl)) (hw _ (List.mem_of_getElem? (i := 18) rfl)) (hw _ (List.mem_of_getElem? (i := 23) rfl)) (rm3 hw p0 (91 : Int32) (94 : Int32) (own_size w)) (by decide) pd_3 rfl rfl (by decide) (Nat.le_of_ble_eq_true rfl) (by decide) (by decide)
  replace w : own_W K b2 Z n0 h 0 0 22 #[.val (.int p0)] [(.int (g3_0 p0.toInt 91 94))] := w
  by_cases hc : (g3_0 p0.toInt 91 94).toInt = 0
  · rw [show g2_14 p0.toInt = g2_25 p0.toInt from if_pos hc]
    exact n2_25 hw p0 (own_ifN w d2_22 rfl hc)
  · rw [show g2_14 p0.toInt = g2_162 p0.toInt from if_neg hc]
    exact n2_162 hw p0 (own_ifY w d2_22 rfl hc (by decide) (by decide))
def g2_6 (i0 : Int) : Int32 := if 983039 < i0 then g2_12 i0 else g2_14 i0
theorem n2_6 {K : OwnK} {Z : State} {n0 : Nat} {h : Heap} {a0 : Array Value} (hw : ∀ d ∈ tables_1, d.before a0 Z = true) (p0 : Int32) (w : own_W K b2 Z n0 h 0 0 6 #[.val (.int p0)] []) : own_G K n0 0 0 (fun v h' => v = some (.int (g2_6 p0.toInt)) ∧ h = h') := by
  replace w : own_W K b2 Z n0 h 0 0 7 #[.val (.int p0)] [(.int p0)] := own_iloadN w d2_6 rfl
  replace w : own_W K b2 Z n0 h 0 0 9 #[.val (.int p0)] [(.int (983039 : Int32)), (.int p0)] := own_ldc w d2_7 (hw _ (List.mem_of_getElem? (i := 20) rfl))
  by_cases hc : 983039 < p0.toInt
  · rw [show g2_6 p0.toInt = g2_12 p0.toInt from if_pos hc]
    exact n2_12 hw p0 (own_icmpN w d2_9 rfl (by decide) hc)
  · rw [show g2_6 p0.toInt = g2_14 p0.toInt from if_neg hc]
    exact n2_14 hw p0 (own_icmpY w d2_9 rfl (by decide) hc (by decide) (by decide))
def g2_0 (i0 : Int) : Int32 := if i0 < 65 then g2_12 i0 else g2_6 i0
theorem n2_0 {K : OwnK} {Z : State} {n0 : Nat} {h : Heap} {a0 : Array Value} (hw : ∀ d ∈ tables_1, d.before a0 Z = true) (p0 : Int32) (w : own_W K b2 Z n0 h 0 0 0 #[.val (.int p0)] []) : own_G K n0 0 0 (fun v h' => v = some (.int (g2_0 p0.toInt)) ∧ h = h') := by
  replace w : own_W K b2 Z n0 h 0 0 1 #[.val (.int p0)] [(.int p0)] := own_iloadN w d2_0 rfl
  replace w : own_W K b2 Z n0 h 0 0 3 #[.val (.int p0)] [(.int (65 : Int32)), (.int p0)] := own_bipush w d2_1 rfl
  by_cases hc : p0.toInt < 65
  · rw [show g2_0 p0.toInt = g2_12 p0.toInt from if_pos hc]
    exact n2_12 hw p0 (own_icmpY w d2_3 rfl (by decide) hc (by decide) (by decide))
  · rw [show g2_0 p0.toInt = g2_6 p0.toInt from if_neg hc]
    exact n2_6 hw p0 (own_icmpN w d2_3 rfl (by decide) hc)
theorem rm2 {Z : State} {n0 : Nat} {h : Heap} {a0 : Array Value} (hw : ∀ d ∈ tables_1, d.before a0 Z = true) (p0 : Int32) (hn : n0 ≤ h.size) : ∀ l, own_M l Z n0 b2 #[(.int p0)] h (fun v h' => v = some (.int (g2_0 p0.toInt)) ∧ h = h') :=
  fun l => own_enter hn pn_2 (ef_2 p0) (fun K w => n2_0 hw p0 w)
set_option maxHeartbeats 40000000 in
theorem own_law (i : Int) : g1_0 i = g2_0 i := by
  by_cases h0 : i < 65
  · rw [show g1_0 i = g1_12 i from if_pos (by omega), show g1_12 i = g1_24 i from if_pos (by omega), show g1_24 i = g1_30 i from if_neg (by omega), show g1_30 i = g1_44 i from if_pos (by omega), show g1_44 i = g1_58 i from if_pos (by omega), show g1_58 i = g1_72 i from if_pos (by omega), show g1_72 i = g1_86 i from if_pos (by omega), show g1_86 i = g1_100 i from if_pos (by omega), show g1_100 i = g1_114 i from if_pos (by omega), show g1_114 i = g1_128 i from if_pos (by omega), show g1_128 i = g1_142 i from if_pos (by omega), show g1_142 i = g1_155 i from if_pos (by omega), show g1_155 i = g1_167 i from if_pos (by omega), show g1_167 i = g1_179 i from if_pos (by omega), show g1_179 i = g1_195 i from if_pos (by omega), show g1_195 i = 0 from rfl, show g2_0 i = g2_12 i from if_pos (by omega), show g2_12 i = 0 from rfl] <;> decide
  by_cases h1 : i < 91
  · rw [show g1_0 i = g1_12 i from if_pos (by omega), show g1_12 i = g1_18 i from if_neg (by omega), show g1_18 i = g1_191 i from if_neg (by omega), show g1_191 i = 1 from rfl, show g2_0 i = g2_6 i from if_neg (by omega), show g2_6 i = g2_14 i from if_neg (by omega), show g2_14 i = g2_25 i from if_pos (own_in0l (by omega)), show g2_25 i = g2_31 i from if_neg (by omega), show g2_31 i = g2_43 i from if_pos (own_in0l (by omega)), show g2_43 i = g2_50 i from if_neg (by omega), show g2_50 i = g2_57 i from if_neg (by omega), show g2_57 i = g2_70 i from if_pos (own_in0l (by omega)), show g2_70 i = g2_77 i from if_neg (by omega), show g2_77 i = g2_90 i from if_pos (own_in0l (by omega)), show g2_90 i = g2_103 i from if_pos (own_in0l (by omega)), show g2_103 i = g2_116 i from if_pos (own_in0l (by omega)), show g2_116 i = g2_129 i from if_pos (own_in0l (by omega)), show g2_129 i = g2_140 i from if_pos (own_in0l (by omega)), show g2_140 i = g2_151 i from if_pos (own_in0l (by omega)), show g2_151 i = g2_164 i from if_pos (own_in0l (by omega)), show g2_164 i = 1 from rfl] <;> decide
  by_cases h2 : i < 95
  · rw [show g1_0 i = g1_12 i from if_pos (by omega), show g1_12 i = g1_18 i from if_neg (by omega), show g1_18 i = g1_24 i from if_pos (by omega), show g1_24 i = g1_30 i from if_neg (by omega), show g1_30 i = g1_44 i from if_pos (by omega), show g1_44 i = g1_58 i from if_pos (by omega), show g1_58 i = g1_72 i from if_pos (by omega), show g1_72 i = g1_86 i from if_pos (by omega), show g1_86 i = g1_100 i from if_pos (by omega), show g1_100 i = g1_114 i from if_pos (by omega), show g1_114 i = g1_128 i from if_pos (by omega), show g1_128 i = g1_142 i from if_pos (by omega), show g1_142 i = g1_155 i from if_pos (by omega), show g1_155 i = g1_167 i from if_pos (by omega), show g1_167 i = g1_179 i from if_pos (by omega), show g1_179 i = g1_195 i from if_pos (by omega), show g1_195 i = 0 from rfl, show g2_0 i = g2_6 i from if_neg (by omega), show g2_6 i = g2_14 i from if_neg (by omega), show g2_14 i = g2_162 i from if_neg (own_in1 (by omega) (by omega)), show g2_162 i = 0 from rfl] <;> decide
  by_cases h3 : i < 96
  · rw [show g1_0 i = g1_12 i from if_pos (by omega), show g1_12 i = g1_18 i from if_neg (by omega), show g1_18 i = g1_24 i from if_pos (by omega), show g1_24 i = g1_191 i from if_pos (by omega), show g1_191 i = 1 from rfl, show g2_0 i = g2_6 i from if_neg (by omega), show g2_6 i = g2_14 i from if_neg (by omega), show g2_14 i = g2_25 i from if_pos (own_in0r (by omega)), show g2_25 i = g2_31 i from if_neg (by omega), show g2_31 i = g2_43 i from if_pos (own_in0l (by omega)), show g2_43 i = g2_50 i from if_neg (by omega), show g2_50 i = g2_57 i from if_neg (by omega), show g2_57 i = g2_70 i from if_pos (own_in0l (by omega)), show g2_70 i = g2_77 i from if_neg (by omega), show g2_77 i = g2_90 i from if_pos (own_in0l (by omega)), show g2_90 i = g2_103 i from if_pos (own_in0l (by omega)), show g2_103 i = g2_116 i from if_pos (own_in0l (by omega)), show g2_116 i = g2_129 i from if_pos (own_in0l (by omega)), show g2_129 i = g2_140 i from if_pos (own_in0l (by omega)), show g2_140 i = g2_151 i from if_pos (own_in0l (by omega)), show g2_151 i = g2_164 i from if_pos (own_in0l (by omega)), show g2_164 i = 1 from rfl] <;> decide
  by_cases h4 : i < 97
  · rw [show g1_0 i = g1_12 i from if_pos (by omega), show g1_12 i = g1_18 i from if_neg (by omega), show g1_18 i = g1_24 i from if_pos (by omega), show g1_24 i = g1_30 i from if_neg (by omega), show g1_30 i = g1_44 i from if_pos (by omega), show g1_44 i = g1_58 i from if_pos (by omega), show g1_58 i = g1_72 i from if_pos (by omega), show g1_72 i = g1_86 i from if_pos (by omega), show g1_86 i = g1_100 i from if_pos (by omega), show g1_100 i = g1_114 i from if_pos (by omega), show g1_114 i = g1_128 i from if_pos (by omega), show g1_128 i = g1_142 i from if_pos (by omega), show g1_142 i = g1_155 i from if_pos (by omega), show g1_155 i = g1_167 i from if_pos (by omega), show g1_167 i = g1_179 i from if_pos (by omega), show g1_179 i = g1_195 i from if_pos (by omega), show g1_195 i = 0 from rfl, show g2_0 i = g2_6 i from if_neg (by omega), show g2_6 i = g2_14 i from if_neg (by omega), show g2_14 i = g2_25 i from if_pos (own_in0r (by omega)), show g2_25 i = g2_162 i from if_pos (by omega), show g2_162 i = 0 from rfl] <;> decide
  by_cases h5 : i < 123
  · rw [show g1_0 i = g1_6 i from if_neg (by omega), show g1_6 i = g1_191 i from if_neg (by omega), show g1_191 i = 1 from rfl, show g2_0 i = g2_6 i from if_neg (by omega), show g2_6 i = g2_14 i from if_neg (by omega), show g2_14 i = g2_25 i from if_pos (own_in0r (by omega)), show g2_25 i = g2_31 i from if_neg (by omega), show g2_31 i = g2_43 i from if_pos (own_in0l (by omega)), show g2_43 i = g2_50 i from if_neg (by omega), show g2_50 i = g2_57 i from if_neg (by omega), show g2_57 i = g2_70 i from if_pos (own_in0l (by omega)), show g2_70 i = g2_77 i from if_neg (by omega), show g2_77 i = g2_90 i from if_pos (own_in0l (by omega)), show g2_90 i = g2_103 i from if_pos (own_in0l (by omega)), show g2_103 i = g2_116 i from if_pos (own_in0l (by omega)), show g2_116 i = g2_129 i from if_pos (own_in0l (by omega)), show g2_129 i = g2_140 i from if_pos (own_in0l (by omega)), show g2_140 i = g2_151 i from if_pos (own_in0l (by omega)), show g2_151 i = g2_164 i from if_pos (own_in0l (by omega)), show g2_164 i = 1 from rfl] <;> decide
  by_cases h6 : i < 192
  · rw [show g1_0 i = g1_6 i from if_neg (by omega), show g1_6 i = g1_12 i from if_pos (by omega), show g1_12 i = g1_18 i from if_neg (by omega), show g1_18 i = g1_24 i from if_pos (by omega), show g1_24 i = g1_30 i from if_neg (by omega), show g1_30 i = g1_44 i from if_pos (by omega), show g1_44 i = g1_58 i from if_pos (by omega), show g1_58 i = g1_72 i from if_pos (by omega), show g1_72 i = g1_86 i from if_pos (by omega), show g1_86 i = g1_100 i from if_pos (by omega), show g1_100 i = g1_114 i from if_pos (by omega), show g1_114 i = g1_128 i from if_pos (by omega), show g1_128 i = g1_142 i from if_pos (by omega), show g1_142 i = g1_155 i from if_pos (by omega), show g1_155 i = g1_167 i from if_pos (by omega), show g1_167 i = g1_179 i from if_pos (by omega), show g1_179 i = g1_195 i from if_pos (by omega), show g1_195 i = 0 from rfl, show g2_0 i = g2_6 i from if_neg (by omega), show g2_6 i = g2_14 i from if_neg (by omega), show g2_14 i = g2_25 i from if_pos (own_in0r (by omega)), show g2_25 i = g2_31 i from if_neg (by omega), show g2_31 i = g2_162 i from if_neg (own_in1 (by omega) (by omega)), show g2_162 i = 0 from rfl] <;> decide
  by_cases h7 : i < 215
  · rw [show g1_0 i = g1_6 i from if_neg (by omega), show g1_6 i = g1_12 i from if_pos (by omega), show g1_12 i = g1_18 i from if_neg (by omega), show g1_18 i = g1_24 i from if_pos (by omega), show g1_24 i = g1_30 i from if_neg (by omega), show g1_30 i = g1_37 i from if_neg (by omega), show g1_37 i = g1_191 i from if_neg (by omega), show g1_191 i = 1 from rfl, show g2_0 i = g2_6 i from if_neg (by omega), show g2_6 i = g2_14 i from if_neg (by omega), show g2_14 i = g2_25 i from if_pos (own_in0r (by omega)), show g2_25 i = g2_31 i from if_neg (by omega), show g2_31 i = g2_43 i from if_pos (own_in0r (by omega)), show g2_43 i = g2_50 i from if_neg (by omega), show g2_50 i = g2_57 i from if_neg (by omega), show g2_57 i = g2_70 i from if_pos (own_in0l (by omega)), show g2_70 i = g2_77 i from if_neg (by omega), show g2_77 i = g2_90 i from if_pos (own_in0l (by omega)), show g2_90 i = g2_103 i from if_pos (own_in0l (by omega)), show g2_103 i = g2_116 i from if_pos (own_in0l (by omega)), show g2_116 i = g2_129 i from if_pos (own_in0l (by omega)), show g2_129 i = g2_140 i from if_pos (own_in0l (by omega)), show g2_140 i = g2_151 i from if_pos (own_in0l (by omega)), show g2_151 i = g2_164 i from if_pos (own_in0l (by omega)), show g2_164 i = 1 from rfl] <;> decide
  by_cases h8 : i < 216
  · rw [show g1_0 i = g1_6 i from if_neg (by omega), show g1_6 i = g1_12 i from if_pos (by omega), show g1_12 i = g1_18 i from if_neg (by omega), show g1_18 i = g1_24 i from if_pos (by omega), show g1_24 i = g1_30 i from if_neg (by omega), show g1_30 i = g1_37 i from if_neg (by omega), show g1_37 i = g1_44 i from if_pos (by omega), show g1_44 i = g1_58 i from if_pos (by omega), show g1_58 i = g1_72 i from if_pos (by omega), show g1_72 i = g1_86 i from if_pos (by omega), show g1_86 i = g1_100 i from if_pos (by omega), show g1_100 i = g1_114 i from if_pos (by omega), show g1_114 i = g1_128 i from if_pos (by omega), show g1_128 i = g1_142 i from if_pos (by omega), show g1_142 i = g1_155 i from if_pos (by omega), show g1_155 i = g1_167 i from if_pos (by omega), show g1_167 i = g1_179 i from if_pos (by omega), show g1_179 i = g1_195 i from if_pos (by omega), show g1_195 i = 0 from rfl, show g2_0 i = g2_6 i from if_neg (by omega), show g2_6 i = g2_14 i from if_neg (by omega), show g2_14 i = g2_25 i from if_pos (own_in0r (by omega)), show g2_25 i = g2_31 i from if_neg (by omega), show g2_31 i = g2_43 i from if_pos (own_in0r (by omega)), show g2_43 i = g2_162 i from if_pos (by omega), show g2_162 i = 0 from rfl] <;> decide
  by_cases h9 : i < 247
  · rw [show g1_0 i = g1_6 i from if_neg (by omega), show g1_6 i = g1_12 i from if_pos (by omega), show g1_12 i = g1_18 i from if_neg (by omega), show g1_18 i = g1_24 i from if_pos (by omega), show g1_24 i = g1_30 i from if_neg (by omega), show g1_30 i = g1_37 i from if_neg (by omega), show g1_37 i = g1_44 i from if_pos (by omega), show g1_44 i = g1_51 i from if_neg (by omega), show g1_51 i = g1_191 i from if_neg (by omega), show g1_191 i = 1 from rfl, show g2_0 i = g2_6 i from if_neg (by omega), show g2_6 i = g2_14 i from if_neg (by omega), show g2_14 i = g2_25 i from if_pos (own_in0r (by omega)), show g2_25 i = g2_31 i from if_neg (by omega), show g2_31 i = g2_43 i from if_pos (own_in0r (by omega)), show g2_43 i = g2_50 i from if_neg (by omega), show g2_50 i = g2_57 i from if_neg (by omega), show g2_57 i = g2_70 i from if_pos (own_in0l (by omega)), show g2_70 i = g2_77 i from if_neg (by omega), show g2_77 i = g2_90 i from if_pos (own_in0l (by omega)), show g2_90 i = g2_103 i from if_pos (own_in0l (by omega)), show g2_103 i = g2_116 i from if_pos (own_in0l (by omega)), show g2_116 i = g2_129 i from if_pos (own_in0l (by omega)), show g2_129 i = g2_140 i from if_pos (own_in0l (by omega)), show g2_140 i = g2_151 i from if_pos (own_in0l (by omega)), show g2_151 i = g2_164 i from if_pos (own_in0l (by omega)), show g2_164 i = 1 from rfl] <;> decide
  by_cases h10 : i < 248
  · rw [show g1_0 i = g1_6 i from if_neg (by omega), show g1_6 i = g1_12 i from if_pos (by omega), show g1_12 i = g1_18 i from if_neg (by omega), show g1_18 i = g1_24 i from if_pos (by omega), show g1_24 i = g1_30 i from if_neg (by omega), show g1_30 i = g1_37 i from if_neg (by omega), show g1_37 i = g1_44 i from if_pos (by omega), show g1_44 i = g1_51 i from if_neg (by omega), show g1_51 i = g1_58 i from if_pos (by omega), show g1_58 i = g1_72 i from if_pos (by omega), show g1_72 i = g1_86 i from if_pos (by omega), show g1_86 i = g1_100 i from if_pos (by omega), show g1_100 i = g1_114 i from if_pos (by omega), show g1_114 i = g1_128 i from if_pos (by omega), show g1_128 i = g1_142 i from if_pos (by omega), show g1_142 i = g1_155 i from if_pos (by omega), show g1_155 i = g1_167 i from if_pos (by omega), show g1_167 i = g1_179 i from if_pos (by omega), show g1_179 i = g1_195 i from if_pos (by omega), show g1_195 i = 0 from rfl, show g2_0 i = g2_6 i from if_neg (by omega), show g2_6 i = g2_14 i from if_neg (by omega), show g2_14 i = g2_25 i from if_pos (own_in0r (by omega)), show g2_25 i = g2_31 i from if_neg (by omega), show g2_31 i = g2_43 i from if_pos (own_in0r (by omega)), show g2_43 i = g2_50 i from if_neg (by omega), show g2_50 i = g2_162 i from if_pos (by omega), show g2_162 i = 0 from rfl] <;> decide
  by_cases h11 : i < 768
  · rw [show g1_0 i = g1_6 i from if_neg (by omega), show g1_6 i = g1_12 i from if_pos (by omega), show g1_12 i = g1_18 i from if_neg (by omega), show g1_18 i = g1_24 i from if_pos (by omega), show g1_24 i = g1_30 i from if_neg (by omega), show g1_30 i = g1_37 i from if_neg (by omega), show g1_37 i = g1_44 i from if_pos (by omega), show g1_44 i = g1_51 i from if_neg (by omega), show g1_51 i = g1_58 i from if_pos (by omega), show g1_58 i = g1_65 i from if_neg (by omega), show g1_65 i = g1_191 i from if_neg (by omega), show g1_191 i = 1 from rfl, show g2_0 i = g2_6 i from if_neg (by omega), show g2_6 i = g2_14 i from if_neg (by omega), show g2_14 i = g2_25 i from if_pos (own_in0r (by omega)), show g2_25 i = g2_31 i from if_neg (by omega), show g2_31 i = g2_43 i from if_pos (own_in0r (by omega)), show g2_43 i = g2_50 i from if_neg (by omega), show g2_50 i = g2_57 i from if_neg (by omega), show g2_57 i = g2_70 i from if_pos (own_in0l (by omega)), show g2_70 i = g2_77 i from if_neg (by omega), show g2_77 i = g2_90 i from if_pos (own_in0l (by omega)), show g2_90 i = g2_103 i from if_pos (own_in0l (by omega)), show g2_103 i = g2_116 i from if_pos (own_in0l (by omega)), show g2_116 i = g2_129 i from if_pos (own_in0l (by omega)), show g2_129 i = g2_140 i from if_pos (own_in0l (by omega)), show g2_140 i = g2_151 i from if_pos (own_in0l (by omega)), show g2_151 i = g2_164 i from if_pos (own_in0l (by omega)), show g2_164 i = 1 from rfl] <;> decide
  by_cases h12 : i < 880
  · rw [show g1_0 i = g1_6 i from if_neg (by omega), show g1_6 i = g1_12 i from if_pos (by omega), show g1_12 i = g1_18 i from if_neg (by omega), show g1_18 i = g1_24 i from if_pos (by omega), show g1_24 i = g1_30 i from if_neg (by omega), show g1_30 i = g1_37 i from if_neg (by omega), show g1_37 i = g1_44 i from if_pos (by omega), show g1_44 i = g1_51 i from if_neg (by omega), show g1_51 i = g1_58 i from if_pos (by omega), show g1_58 i = g1_65 i from if_neg (by omega), show g1_65 i = g1_72 i from if_pos (by omega), show g1_72 i = g1_86 i from if_pos (by omega), show g1_86 i = g1_100 i from if_pos (by omega), show g1_100 i = g1_114 i from if_pos (by omega), show g1_114 i = g1_128 i from if_pos (by omega), show g1_128 i = g1_142 i from if_pos (by omega), show g1_142 i = g1_155 i from if_pos (by omega), show g1_155 i = g1_167 i from if_pos (by omega), show g1_167 i = g1_179 i from if_pos (by omega), show g1_179 i = g1_195 i from if_pos (by omega), show g1_195 i = 0 from rfl, show g2_0 i = g2_6 i from if_neg (by omega), show g2_6 i = g2_14 i from if_neg (by omega), show g2_14 i = g2_25 i from if_pos (own_in0r (by omega)), show g2_25 i = g2_31 i from if_neg (by omega), show g2_31 i = g2_43 i from if_pos (own_in0r (by omega)), show g2_43 i = g2_50 i from if_neg (by omega), show g2_50 i = g2_57 i from if_neg (by omega), show g2_57 i = g2_162 i from if_neg (own_in1 (by omega) (by omega)), show g2_162 i = 0 from rfl] <;> decide
  by_cases h13 : i < 894
  · rw [show g1_0 i = g1_6 i from if_neg (by omega), show g1_6 i = g1_12 i from if_pos (by omega), show g1_12 i = g1_18 i from if_neg (by omega), show g1_18 i = g1_24 i from if_pos (by omega), show g1_24 i = g1_30 i from if_neg (by omega), show g1_30 i = g1_37 i from if_neg (by omega), show g1_37 i = g1_44 i from if_pos (by omega), show g1_44 i = g1_51 i from if_neg (by omega), show g1_51 i = g1_58 i from if_pos (by omega), show g1_58 i = g1_65 i from if_neg (by omega), show g1_65 i = g1_72 i from if_pos (by omega), show g1_72 i = g1_79 i from if_neg (by omega), show g1_79 i = g1_191 i from if_neg (by omega), show g1_191 i = 1 from rfl, show g2_0 i = g2_6 i from if_neg (by omega), show g2_6 i = g2_14 i from if_neg (by omega), show g2_14 i = g2_25 i from if_pos (own_in0r (by omega)), show g2_25 i = g2_31 i from if_neg (by omega), show g2_31 i = g2_43 i from if_pos (own_in0r (by omega)), show g2_43 i = g2_50 i from if_neg (by omega), show g2_50 i = g2_57 i from if_neg (by omega), show g2_57 i = g2_70 i from if_pos (own_in0r (by omega)), show g2_70 i = g2_77 i from if_neg (by omega), show g2_77 i = g2_90 i from if_pos (own_in0l (by omega)), show g2_90 i = g2_103 i from if_pos (own_in0l (by omega)), show g2_103 i = g2_116 i from if_pos (own_in0l (by omega)), show g2_116 i = g2_129 i from if_pos (own_in0l (by omega)), show g2_129 i = g2_140 i from if_pos (own_in0l (by omega)), show g2_140 i = g2_151 i from if_pos (own_in0l (by omega)), show g2_151 i = g2_164 i from if_pos (own_in0l (by omega)), show g2_164 i = 1 from rfl] <;> decide
  by_cases h14 : i < 895
  · rw [show g1_0 i = g1_6 i from if_neg (by omega), show g1_6 i = g1_12 i from if_pos (by omega), show g1_12 i = g1_18 i from if_neg (by omega), show g1_18 i = g1_24 i from if_pos (by omega), show g1_24 i = g1_30 i from if_neg (by omega), show g1_30 i = g1_37 i from if_neg (by omega), show g1_37 i = g1_44 i from if_pos (by omega), show g1_44 i = g1_51 i from if_neg (by omega), show g1_51 i = g1_58 i from if_pos (by omega), show g1_58 i = g1_65 i from if_neg (by omega), show g1_65 i = g1_72 i from if_pos (by omega), show g1_72 i = g1_79 i from if_neg (by omega), show g1_79 i = g1_86 i from if_pos (by omega), show g1_86 i = g1_100 i from if_pos (by omega), show g1_100 i = g1_114 i from if_pos (by omega), show g1_114 i = g1_128 i from if_pos (by omega), show g1_128 i = g1_142 i from if_pos (by omega), show g1_142 i = g1_155 i from if_pos (by omega), show g1_155 i = g1_167 i from if_pos (by omega), show g1_167 i = g1_179 i from if_pos (by omega), show g1_179 i = g1_195 i from if_pos (by omega), show g1_195 i = 0 from rfl, show g2_0 i = g2_6 i from if_neg (by omega), show g2_6 i = g2_14 i from if_neg (by omega), show g2_14 i = g2_25 i from if_pos (own_in0r (by omega)), show g2_25 i = g2_31 i from if_neg (by omega), show g2_31 i = g2_43 i from if_pos (own_in0r (by omega)), show g2_43 i = g2_50 i from if_neg (by omega), show g2_50 i = g2_57 i from if_neg (by omega), show g2_57 i = g2_70 i from if_pos (own_in0r (by omega)), show g2_70 i = g2_162 i from if_pos (by omega), show g2_162 i = 0 from rfl] <;> decide
  by_cases h15 : i < 8192
  · rw [show g1_0 i = g1_6 i from if_neg (by omega), show g1_6 i = g1_12 i from if_pos (by omega), show g1_12 i = g1_18 i from if_neg (by omega), show g1_18 i = g1_24 i from if_pos (by omega), show g1_24 i = g1_30 i from if_neg (by omega), show g1_30 i = g1_37 i from if_neg (by omega), show g1_37 i = g1_44 i from if_pos (by omega), show g1_44 i = g1_51 i from if_neg (by omega), show g1_51 i = g1_58 i from if_pos (by omega), show g1_58 i = g1_65 i from if_neg (by omega), show g1_65 i = g1_72 i from if_pos (by omega), show g1_72 i = g1_79 i from if_neg (by omega), show g1_79 i = g1_86 i from if_pos (by omega), show g1_86 i = g1_93 i from if_neg (by omega), show g1_93 i = g1_191 i from if_neg (by omega), show g1_191 i = 1 from rfl, show g2_0 i = g2_6 i from if_neg (by omega), show g2_6 i = g2_14 i from if_neg (by omega), show g2_14 i = g2_25 i from if_pos (own_in0r (by omega)), show g2_25 i = g2_31 i from if_neg (by omega), show g2_31 i = g2_43 i from if_pos (own_in0r (by omega)), show g2_43 i = g2_50 i from if_neg (by omega), show g2_50 i = g2_57 i from if_neg (by omega), show g2_57 i = g2_70 i from if_pos (own_in0r (by omega)), show g2_70 i = g2_77 i from if_neg (by omega), show g2_77 i = g2_90 i from if_pos (own_in0l (by omega)), show g2_90 i = g2_103 i from if_pos (own_in0l (by omega)), show g2_103 i = g2_116 i from if_pos (own_in0l (by omega)), show g2_116 i = g2_129 i from if_pos (own_in0l (by omega)), show g2_129 i = g2_140 i from if_pos (own_in0l (by omega)), show g2_140 i = g2_151 i from if_pos (own_in0l (by omega)), show g2_151 i = g2_164 i from if_pos (own_in0l (by omega)), show g2_164 i = 1 from rfl] <;> decide
  by_cases h16 : i < 8204
  · rw [show g1_0 i = g1_6 i from if_neg (by omega), show g1_6 i = g1_12 i from if_pos (by omega), show g1_12 i = g1_18 i from if_neg (by omega), show g1_18 i = g1_24 i from if_pos (by omega), show g1_24 i = g1_30 i from if_neg (by omega), show g1_30 i = g1_37 i from if_neg (by omega), show g1_37 i = g1_44 i from if_pos (by omega), show g1_44 i = g1_51 i from if_neg (by omega), show g1_51 i = g1_58 i from if_pos (by omega), show g1_58 i = g1_65 i from if_neg (by omega), show g1_65 i = g1_72 i from if_pos (by omega), show g1_72 i = g1_79 i from if_neg (by omega), show g1_79 i = g1_86 i from if_pos (by omega), show g1_86 i = g1_93 i from if_neg (by omega), show g1_93 i = g1_100 i from if_pos (by omega), show g1_100 i = g1_114 i from if_pos (by omega), show g1_114 i = g1_128 i from if_pos (by omega), show g1_128 i = g1_142 i from if_pos (by omega), show g1_142 i = g1_155 i from if_pos (by omega), show g1_155 i = g1_167 i from if_pos (by omega), show g1_167 i = g1_179 i from if_pos (by omega), show g1_179 i = g1_195 i from if_pos (by omega), show g1_195 i = 0 from rfl, show g2_0 i = g2_6 i from if_neg (by omega), show g2_6 i = g2_14 i from if_neg (by omega), show g2_14 i = g2_25 i from if_pos (own_in0r (by omega)), show g2_25 i = g2_31 i from if_neg (by omega), show g2_31 i = g2_43 i from if_pos (own_in0r (by omega)), show g2_43 i = g2_50 i from if_neg (by omega), show g2_50 i = g2_57 i from if_neg (by omega), show g2_57 i = g2_70 i from if_pos (own_in0r (by omega)), show g2_70 i = g2_77 i from if_neg (by omega), show g2_77 i = g2_162 i from if_neg (own_in1 (by omega) (by omega)), show g2_162 i = 0 from rfl] <;> decide
  by_cases h17 : i < 8206
  · rw [show g1_0 i = g1_6 i from if_neg (by omega), show g1_6 i = g1_12 i from if_pos (by omega), show g1_12 i = g1_18 i from if_neg (by omega), show g1_18 i = g1_24 i from if_pos (by omega), show g1_24 i = g1_30 i from if_neg (by omega), show g1_30 i = g1_37 i from if_neg (by omega), show g1_37 i = g1_44 i from if_pos (by omega), show g1_44 i = g1_51 i from if_neg (by omega), show g1_51 i = g1_58 i from if_pos (by omega), show g1_58 i = g1_65 i from if_neg (by omega), show g1_65 i = g1_72 i from if_pos (by omega), show g1_72 i = g1_79 i from if_neg (by omega), show g1_79 i = g1_86 i from if_pos (by omega), show g1_86 i = g1_93 i from if_neg (by omega), show g1_93 i = g1_100 i from if_pos (by omega), show g1_100 i = g1_107 i from if_neg (by omega), show g1_107 i = g1_191 i from if_neg (by omega), show g1_191 i = 1 from rfl, show g2_0 i = g2_6 i from if_neg (by omega), show g2_6 i = g2_14 i from if_neg (by omega), show g2_14 i = g2_25 i from if_pos (own_in0r (by omega)), show g2_25 i = g2_31 i from if_neg (by omega), show g2_31 i = g2_43 i from if_pos (own_in0r (by omega)), show g2_43 i = g2_50 i from if_neg (by omega), show g2_50 i = g2_57 i from if_neg (by omega), show g2_57 i = g2_70 i from if_pos (own_in0r (by omega)), show g2_70 i = g2_77 i from if_neg (by omega), show g2_77 i = g2_90 i from if_pos (own_in0r (by omega)), show g2_90 i = g2_103 i from if_pos (own_in0l (by omega)), show g2_103 i = g2_116 i from if_pos (own_in0l (by omega)), show g2_116 i = g2_129 i from if_pos (own_in0l (by omega)), show g2_129 i = g2_140 i from if_pos (own_in0l (by omega)), show g2_140 i = g2_151 i from if_pos (own_in0l (by omega)), show g2_151 i = g2_164 i from if_pos (own_in0l (by omega)), show g2_164 i = 1 from rfl] <;> decide
  by_cases h18 : i < 8304
  · rw [show g1_0 i = g1_6 i from if_neg (by omega), show g1_6 i = g1_12 i from if_pos (by omega), show g1_12 i = g1_18 i from if_neg (by omega), show g1_18 i = g1_24 i from if_pos (by omega), show g1_24 i = g1_30 i from if_neg (by omega), show g1_30 i = g1_37 i from if_neg (by omega), show g1_37 i = g1_44 i from if_pos (by omega), show g1_44 i = g1_51 i from if_neg (by omega), show g1_51 i = g1_58 i from if_pos (by omega), show g1_58 i = g1_65 i from if_neg (by omega), show g1_65 i = g1_72 i from if_pos (by omega), show g1_72 i = g1_79 i from if_neg (by omega), show g1_79 i = g1_86 i from if_pos (by omega), show g1_86 i = g1_93 i from if_neg (by omega), show g1_93 i = g1_100 i from if_pos (by omega), show g1_100 i = g1_107 i from if_neg (by omega), show g1_107 i = g1_114 i from if_pos (by omega), show g1_114 i = g1_128 i from if_pos (by omega), show g1_128 i = g1_142 i from if_pos (by omega), show g1_142 i = g1_155 i from if_pos (by omega), show g1_155 i = g1_167 i from if_pos (by omega), show g1_167 i = g1_179 i from if_pos (by omega), show g1_179 i = g1_195 i from if_pos (by omega), show g1_195 i = 0 from rfl, show g2_0 i = g2_6 i from if_neg (by omega), show g2_6 i = g2_14 i from if_neg (by omega), show g2_14 i = g2_25 i from if_pos (own_in0r (by omega)), show g2_25 i = g2_31 i from if_neg (by omega), show g2_31 i = g2_43 i from if_pos (own_in0r (by omega)), show g2_43 i = g2_50 i from if_neg (by omega), show g2_50 i = g2_57 i from if_neg (by omega), show g2_57 i = g2_70 i from if_pos (own_in0r (by omega)), show g2_70 i = g2_77 i from if_neg (by omega), show g2_77 i = g2_90 i from if_pos (own_in0r (by omega)), show g2_90 i = g2_162 i from if_neg (own_in1 (by omega) (by omega)), show g2_162 i = 0 from rfl] <;> decide
  by_cases h19 : i < 8592
  · rw [show g1_0 i = g1_6 i from if_neg (by omega), show g1_6 i = g1_12 i from if_pos (by omega), show g1_12 i = g1_18 i from if_neg (by omega), show g1_18 i = g1_24 i from if_pos (by omega), show g1_24 i = g1_30 i from if_neg (by omega), show g1_30 i = g1_37 i from if_neg (by omega), show g1_37 i = g1_44 i from if_pos (by omega), show g1_44 i = g1_51 i from if_neg (by omega), show g1_51 i = g1_58 i from if_pos (by omega), show g1_58 i = g1_65 i from if_neg (by omega), show g1_65 i = g1_72 i from if_pos (by omega), show g1_72 i = g1_79 i from if_neg (by omega), show g1_79 i = g1_86 i from if_pos (by omega), show g1_86 i = g1_93 i from if_neg (by omega), show g1_93 i = g1_100 i from if_pos (by omega), show g1_100 i = g1_107 i from if_neg (by omega), show g1_107 i = g1_114 i from if_pos (by omega), show g1_114 i = g1_121 i from if_neg (by omega), show g1_121 i = g1_191 i from if_neg (by omega), show g1_191 i = 1 from rfl, show g2_0 i = g2_6 i from if_neg (by omega), show g2_6 i = g2_14 i from if_neg (by omega), show g2_14 i = g2_25 i from if_pos (own_in0r (by omega)), show g2_25 i = g2_31 i from if_neg (by omega), show g2_31 i = g2_43 i from if_pos (own_in0r (by omega)), show g2_43 i = g2_50 i from if_neg (by omega), show g2_50 i = g2_57 i from if_neg (by omega), show g2_57 i = g2_70 i from if_pos (own_in0r (by omega)), show g2_70 i = g2_77 i from if_neg (by omega), show g2_77 i = g2_90 i from if_pos (own_in0r (by omega)), show g2_90 i = g2_103 i from if_pos (own_in0r (by omega)), show g2_103 i = g2_116 i from if_pos (own_in0l (by omega)), show g2_116 i = g2_129 i from if_pos (own_in0l (by omega)), show g2_129 i = g2_140 i from if_pos (own_in0l (by omega)), show g2_140 i = g2_151 i from if_pos (own_in0l (by omega)), show g2_151 i = g2_164 i from if_pos (own_in0l (by omega)), show g2_164 i = 1 from rfl] <;> decide
  by_cases h20 : i < 11264
  · rw [show g1_0 i = g1_6 i from if_neg (by omega), show g1_6 i = g1_12 i from if_pos (by omega), show g1_12 i = g1_18 i from if_neg (by omega), show g1_18 i = g1_24 i from if_pos (by omega), show g1_24 i = g1_30 i from if_neg (by omega), show g1_30 i = g1_37 i from if_neg (by omega), show g1_37 i = g1_44 i from if_pos (by omega), show g1_44 i = g1_51 i from if_neg (by omega), show g1_51 i = g1_58 i from if_pos (by omega), show g1_58 i = g1_65 i from if_neg (by omega), show g1_65 i = g1_72 i from if_pos (by omega), show g1_72 i = g1_79 i from if_neg (by omega), show g1_79 i = g1_86 i from if_pos (by omega), show g1_86 i = g1_93 i from if_neg (by omega), show g1_93 i = g1_100 i from if_pos (by omega), show g1_100 i = g1_107 i from if_neg (by omega), show g1_107 i = g1_114 i from if_pos (by omega), show g1_114 i = g1_121 i from if_neg (by omega), show g1_121 i = g1_128 i from if_pos (by omega), show g1_128 i = g1_142 i from if_pos (by omega), show g1_142 i = g1_155 i from if_pos (by omega), show g1_155 i = g1_167 i from if_pos (by omega), show g1_167 i = g1_179 i from if_pos (by omega), show g1_179 i = g1_195 i from if_pos (by omega), show g1_195 i = 0 from rfl, show g2_0 i = g2_6 i from if_neg (by omega), show g2_6 i = g2_14 i from if_neg (by omega), show g2_14 i = g2_25 i from if_pos (own_in0r (by omega)), show g2_25 i = g2_31 i from if_neg (by omega), show g2_31 i = g2_43 i from if_pos (own_in0r (by omega)), show g2_43 i = g2_50 i from if_neg (by omega), show g2_50 i = g2_57 i from if_neg (by omega), show g2_57 i = g2_70 i from if_pos (own_in0r (by omega)), show g2_70 i = g2_77 i from if_neg (by omega), show g2_77 i = g2_90 i from if_pos (own_in0r (by omega)), show g2_90 i = g2_103 i from if_pos (own_in0r (by omega)), show g2_103 i = g2_162 i from if_neg (own_in1 (by omega) (by omega)), show g2_162 i = 0 from rfl] <;> decide
  by_cases h21 : i < 12272
  · rw [show g1_0 i = g1_6 i from if_neg (by omega), show g1_6 i = g1_12 i from if_pos (by omega), show g1_12 i = g1_18 i from if_neg (by omega), show g1_18 i = g1_24 i from if_pos (by omega), show g1_24 i = g1_30 i from if_neg (by omega), show g1_30 i = g1_37 i from if_neg (by omega), show g1_37 i = g1_44 i from if_pos (by omega), show g1_44 i = g1_51 i from if_neg (by omega), show g1_51 i = g1_58 i from if_pos (by omega), show g1_58 i = g1_65 i from if_neg (by omega), show g1_65 i = g1_72 i from if_pos (by omega), show g1_72 i = g1_79 i from if_neg (by omega), show g1_79 i = g1_86 i from if_pos (by omega), show g1_86 i = g1_93 i from if_neg (by omega), show g1_93 i = g1_100 i from if_pos (by omega), show g1_100 i = g1_107 i from if_neg (by omega), show g1_107 i = g1_114 i from if_pos (by omega), show g1_114 i = g1_121 i from if_neg (by omega), show g1_121 i = g1_128 i from if_pos (by omega), show g1_128 i = g1_135 i from if_neg (by omega), show g1_135 i = g1_191 i from if_neg (by omega), show g1_191 i = 1 from rfl, show g2_0 i = g2_6 i from if_neg (by omega), show g2_6 i = g2_14 i from if_neg (by omega), show g2_14 i = g2_25 i from if_pos (own_in0r (by omega)), show g2_25 i = g2_31 i from if_neg (by omega), show g2_31 i = g2_43 i from if_pos (own_in0r (by omega)), show g2_43 i = g2_50 i from if_neg (by omega), show g2_50 i = g2_57 i from if_neg (by omega), show g2_57 i = g2_70 i from if_pos (own_in0r (by omega)), show g2_70 i = g2_77 i from if_neg (by omega), show g2_77 i = g2_90 i from if_pos (own_in0r (by omega)), show g2_90 i = g2_103 i from if_pos (own_in0r (by omega)), show g2_103 i = g2_116 i from if_pos (own_in0r (by omega)), show g2_116 i = g2_129 i from if_pos (own_in0l (by omega)), show g2_129 i = g2_140 i from if_pos (own_in0l (by omega)), show g2_140 i = g2_151 i from if_pos (own_in0l (by omega)), show g2_151 i = g2_164 i from if_pos (own_in0l (by omega)), show g2_164 i = 1 from rfl] <;> decide
  by_cases h22 : i < 12289
  · rw [show g1_0 i = g1_6 i from if_neg (by omega), show g1_6 i = g1_12 i from if_pos (by omega), show g1_12 i = g1_18 i from if_neg (by omega), show g1_18 i = g1_24 i from if_pos (by omega), show g1_24 i = g1_30 i from if_neg (by omega), show g1_30 i = g1_37 i from if_neg (by omega), show g1_37 i = g1_44 i from if_pos (by omega), show g1_44 i = g1_51 i from if_neg (by omega), show g1_51 i = g1_58 i from if_pos (by omega), show g1_58 i = g1_65 i from if_neg (by omega), show g1_65 i = g1_72 i from if_pos (by omega), show g1_72 i = g1_79 i from if_neg (by omega), show g1_79 i = g1_86 i from if_pos (by omega), show g1_86 i = g1_93 i from if_neg (by omega), show g1_93 i = g1_100 i from if_pos (by omega), show g1_100 i = g1_107 i from if_neg (by omega), show g1_107 i = g1_114 i from if_pos (by omega), show g1_114 i = g1_121 i from if_neg (by omega), show g1_121 i = g1_128 i from if_pos (by omega), show g1_128 i = g1_135 i from if_neg (by omega), show g1_135 i = g1_142 i from if_pos (by omega), show g1_142 i = g1_155 i from if_pos (by omega), show g1_155 i = g1_167 i from if_pos (by omega), show g1_167 i = g1_179 i from if_pos (by omega), show g1_179 i = g1_195 i from if_pos (by omega), show g1_195 i = 0 from rfl, show g2_0 i = g2_6 i from if_neg (by omega), show g2_6 i = g2_14 i from if_neg (by omega), show g2_14 i = g2_25 i from if_pos (own_in0r (by omega)), show g2_25 i = g2_31 i from if_neg (by omega), show g2_31 i = g2_43 i from if_pos (own_in0r (by omega)), show g2_43 i = g2_50 i from if_neg (by omega), show g2_50 i = g2_57 i from if_neg (by omega), show g2_57 i = g2_70 i from if_pos (own_in0r (by omega)), show g2_70 i = g2_77 i from if_neg (by omega), show g2_77 i = g2_90 i from if_pos (own_in0r (by omega)), show g2_90 i = g2_103 i from if_pos (own_in0r (by omega)), show g2_103 i = g2_116 i from if_pos (own_in0r (by omega)), show g2_116 i = g2_162 i from if_neg (own_in1 (by omega) (by omega)), show g2_162 i = 0 from rfl] <;> decide
  by_cases h23 : i < 55296
  · rw [show g1_0 i = g1_6 i from if_neg (by omega), show g1_6 i = g1_12 i from if_pos (by omega), show g1_12 i = g1_18 i from if_neg (by omega), show g1_18 i = g1_24 i from if_pos (by omega), show g1_24 i = g1_30 i from if_neg (by omega), show g1_30 i = g1_37 i from if_neg (by omega), show g1_37 i = g1_44 i from if_pos (by omega), show g1_44 i = g1_51 i from if_neg (by omega), show g1_51 i = g1_58 i from if_pos (by omega), show g1_58 i = g1_65 i from if_neg (by omega), show g1_65 i = g1_72 i from if_pos (by omega), show g1_72 i = g1_79 i from if_neg (by omega), show g1_79 i = g1_86 i from if_pos (by omega), show g1_86 i = g1_93 i from if_neg (by omega), show g1_93 i = g1_100 i from if_pos (by omega), show g1_100 i = g1_107 i from if_neg (by omega), show g1_107 i = g1_114 i from if_pos (by omega), show g1_114 i = g1_121 i from if_neg (by omega), show g1_121 i = g1_128 i from if_pos (by omega), show g1_128 i = g1_135 i from if_neg (by omega), show g1_135 i = g1_142 i from if_pos (by omega), show g1_142 i = g1_149 i from if_neg (by omega), show g1_149 i = g1_191 i from if_neg (by omega), show g1_191 i = 1 from rfl, show g2_0 i = g2_6 i from if_neg (by omega), show g2_6 i = g2_14 i from if_neg (by omega), show g2_14 i = g2_25 i from if_pos (own_in0r (by omega)), show g2_25 i = g2_31 i from if_neg (by omega), show g2_31 i = g2_43 i from if_pos (own_in0r (by omega)), show g2_43 i = g2_50 i from if_neg (by omega), show g2_50 i = g2_57 i from if_neg (by omega), show g2_57 i = g2_70 i from if_pos (own_in0r (by omega)), show g2_70 i = g2_77 i from if_neg (by omega), show g2_77 i = g2_90 i from if_pos (own_in0r (by omega)), show g2_90 i = g2_103 i from if_pos (own_in0r (by omega)), show g2_103 i = g2_116 i from if_pos (own_in0r (by omega)), show g2_116 i = g2_129 i from if_pos (own_in0r (by omega)), show g2_129 i = g2_140 i from if_pos (own_in0l (by omega)), show g2_140 i = g2_151 i from if_pos (own_in0l (by omega)), show g2_151 i = g2_164 i from if_pos (own_in0l (by omega)), show g2_164 i = 1 from rfl] <;> decide
  by_cases h24 : i < 63744
  · rw [show g1_0 i = g1_6 i from if_neg (by omega), show g1_6 i = g1_12 i from if_pos (by omega), show g1_12 i = g1_18 i from if_neg (by omega), show g1_18 i = g1_24 i from if_pos (by omega), show g1_24 i = g1_30 i from if_neg (by omega), show g1_30 i = g1_37 i from if_neg (by omega), show g1_37 i = g1_44 i from if_pos (by omega), show g1_44 i = g1_51 i from if_neg (by omega), show g1_51 i = g1_58 i from if_pos (by omega), show g1_58 i = g1_65 i from if_neg (by omega), show g1_65 i = g1_72 i from if_pos (by omega), show g1_72 i = g1_79 i from if_neg (by omega), show g1_79 i = g1_86 i from if_pos (by omega), show g1_86 i = g1_93 i from if_neg (by omega), show g1_93 i = g1_100 i from if_pos (by omega), show g1_100 i = g1_107 i from if_neg (by omega), show g1_107 i = g1_114 i from if_pos (by omega), show g1_114 i = g1_121 i from if_neg (by omega), show g1_121 i = g1_128 i from if_pos (by omega), show g1_128 i = g1_135 i from if_neg (by omega), show g1_135 i = g1_142 i from if_pos (by omega), show g1_142 i = g1_149 i from if_neg (by omega), show g1_149 i = g1_155 i from if_pos (by omega), show g1_155 i = g1_167 i from if_pos (by omega), show g1_167 i = g1_179 i from if_pos (by omega), show g1_179 i = g1_195 i from if_pos (by omega), show g1_195 i = 0 from rfl, show g2_0 i = g2_6 i from if_neg (by omega), show g2_6 i = g2_14 i from if_neg (by omega), show g2_14 i = g2_25 i from if_pos (own_in0r (by omega)), show g2_25 i = g2_31 i from if_neg (by omega), show g2_31 i = g2_43 i from if_pos (own_in0r (by omega)), show g2_43 i = g2_50 i from if_neg (by omega), show g2_50 i = g2_57 i from if_neg (by omega), show g2_57 i = g2_70 i from if_pos (own_in0r (by omega)), show g2_70 i = g2_77 i from if_neg (by omega), show g2_77 i = g2_90 i from if_pos (own_in0r (by omega)), show g2_90 i = g2_103 i from if_pos (own_in0r (by omega)), show g2_103 i = g2_116 i from if_pos (own_in0r (by omega)), show g2_116 i = g2_129 i from if_pos (own_in0r (by omega)), show g2_129 i = g2_162 i from if_neg (own_in1 (by omega) (by omega)), show g2_162 i = 0 from rfl] <;> decide
  by_cases h25 : i < 64976
  · rw [show g1_0 i = g1_6 i from if_neg (by omega), show g1_6 i = g1_12 i from if_pos (by omega), show g1_12 i = g1_18 i from if_neg (by omega), show g1_18 i = g1_24 i from if_pos (by omega), show g1_24 i = g1_30 i from if_neg (by omega), show g1_30 i = g1_37 i from if_neg (by omega), show g1_37 i = g1_44 i from if_pos (by omega), show g1_44 i = g1_51 i from if_neg (by omega), show g1_51 i = g1_58 i from if_pos (by omega), show g1_58 i = g1_65 i from if_neg (by omega), show g1_65 i = g1_72 i from if_pos (by omega), show g1_72 i = g1_79 i from if_neg (by omega), show g1_79 i = g1_86 i from if_pos (by omega), show g1_86 i = g1_93 i from if_neg (by omega), show g1_93 i = g1_100 i from if_pos (by omega), show g1_100 i = g1_107 i from if_neg (by omega), show g1_107 i = g1_114 i from if_pos (by omega), show g1_114 i = g1_121 i from if_neg (by omega), show g1_121 i = g1_128 i from if_pos (by omega), show g1_128 i = g1_135 i from if_neg (by omega), show g1_135 i = g1_142 i from if_pos (by omega), show g1_142 i = g1_149 i from if_neg (by omega), show g1_149 i = g1_155 i from if_pos (by omega), show g1_155 i = g1_161 i from if_neg (by omega), show g1_161 i = g1_191 i from if_neg (by omega), show g1_191 i = 1 from rfl, show g2_0 i = g2_6 i from if_neg (by omega), show g2_6 i = g2_14 i from if_neg (by omega), show g2_14 i = g2_25 i from if_pos (own_in0r (by omega)), show g2_25 i = g2_31 i from if_neg (by omega), show g2_31 i = g2_43 i from if_pos (own_in0r (by omega)), show g2_43 i = g2_50 i from if_neg (by omega), show g2_50 i = g2_57 i from if_neg (by omega), show g2_57 i = g2_70 i from if_pos (own_in0r (by omega)), show g2_70 i = g2_77 i from if_neg (by omega), show g2_77 i = g2_90 i from if_pos (own_in0r (by omega)), show g2_90 i = g2_103 i from if_pos (own_in0r (by omega)), show g2_103 i = g2_116 i from if_pos (own_in0r (by omega)), show g2_116 i = g2_129 i from if_pos (own_in0r (by omega)), show g2_129 i = g2_140 i from if_pos (own_in0r (by omega)), show g2_140 i = g2_151 i from if_pos (own_in0l (by omega)), show g2_151 i = g2_164 i from if_pos (own_in0l (by omega)), show g2_164 i = 1 from rfl] <;> decide
  by_cases h26 : i < 65008
  · rw [show g1_0 i = g1_6 i from if_neg (by omega), show g1_6 i = g1_12 i from if_pos (by omega), show g1_12 i = g1_18 i from if_neg (by omega), show g1_18 i = g1_24 i from if_pos (by omega), show g1_24 i = g1_30 i from if_neg (by omega), show g1_30 i = g1_37 i from if_neg (by omega), show g1_37 i = g1_44 i from if_pos (by omega), show g1_44 i = g1_51 i from if_neg (by omega), show g1_51 i = g1_58 i from if_pos (by omega), show g1_58 i = g1_65 i from if_neg (by omega), show g1_65 i = g1_72 i from if_pos (by omega), show g1_72 i = g1_79 i from if_neg (by omega), show g1_79 i = g1_86 i from if_pos (by omega), show g1_86 i = g1_93 i from if_neg (by omega), show g1_93 i = g1_100 i from if_pos (by omega), show g1_100 i = g1_107 i from if_neg (by omega), show g1_107 i = g1_114 i from if_pos (by omega), show g1_114 i = g1_121 i from if_neg (by omega), show g1_121 i = g1_128 i from if_pos (by omega), show g1_128 i = g1_135 i from if_neg (by omega), show g1_135 i = g1_142 i from if_pos (by omega), show g1_142 i = g1_149 i from if_neg (by omega), show g1_149 i = g1_155 i from if_pos (by omega), show g1_155 i = g1_161 i from if_neg (by omega), show g1_161 i = g1_167 i from if_pos (by omega), show g1_167 i = g1_179 i from if_pos (by omega), show g1_179 i = g1_195 i from if_pos (by omega), show g1_195 i = 0 from rfl, show g2_0 i = g2_6 i from if_neg (by omega), show g2_6 i = g2_14 i from if_neg (by omega), show g2_14 i = g2_25 i from if_pos (own_in0r (by omega)), show g2_25 i = g2_31 i from if_neg (by omega), show g2_31 i = g2_43 i from if_pos (own_in0r (by omega)), show g2_43 i = g2_50 i from if_neg (by omega), show g2_50 i = g2_57 i from if_neg (by omega), show g2_57 i = g2_70 i from if_pos (own_in0r (by omega)), show g2_70 i = g2_77 i from if_neg (by omega), show g2_77 i = g2_90 i from if_pos (own_in0r (by omega)), show g2_90 i = g2_103 i from if_pos (own_in0r (by omega)), show g2_103 i = g2_116 i from if_pos (own_in0r (by omega)), show g2_116 i = g2_129 i from if_pos (own_in0r (by omega)), show g2_129 i = g2_140 i from if_pos (own_in0r (by omega)), show g2_140 i = g2_162 i from if_neg (own_in1 (by omega) (by omega)), show g2_162 i = 0 from rfl] <;> decide
  by_cases h27 : i < 65534
  · rw [show g1_0 i = g1_6 i from if_neg (by omega), show g1_6 i = g1_12 i from if_pos (by omega), show g1_12 i = g1_18 i from if_neg (by omega), show g1_18 i = g1_24 i from if_pos (by omega), show g1_24 i = g1_30 i from if_neg (by omega), show g1_30 i = g1_37 i from if_neg (by omega), show g1_37 i = g1_44 i from if_pos (by omega), show g1_44 i = g1_51 i from if_neg (by omega), show g1_51 i = g1_58 i from if_pos (by omega), show g1_58 i = g1_65 i from if_neg (by omega), show g1_65 i = g1_72 i from if_pos (by omega), show g1_72 i = g1_79 i from if_neg (by omega), show g1_79 i = g1_86 i from if_pos (by omega), show g1_86 i = g1_93 i from if_neg (by omega), show g1_93 i = g1_100 i from if_pos (by omega), show g1_100 i = g1_107 i from if_neg (by omega), show g1_107 i = g1_114 i from if_pos (by omega), show g1_114 i = g1_121 i from if_neg (by omega), show g1_121 i = g1_128 i from if_pos (by omega), show g1_128 i = g1_135 i from if_neg (by omega), show g1_135 i = g1_142 i from if_pos (by omega), show g1_142 i = g1_149 i from if_neg (by omega), show g1_149 i = g1_155 i from if_pos (by omega), show g1_155 i = g1_161 i from if_neg (by omega), show g1_161 i = g1_167 i from if_pos (by omega), show g1_167 i = g1_173 i from if_neg (by omega), show g1_173 i = g1_191 i from if_neg (by omega), show g1_191 i = 1 from rfl, show g2_0 i = g2_6 i from if_neg (by omega), show g2_6 i = g2_14 i from if_neg (by omega), show g2_14 i = g2_25 i from if_pos (own_in0r (by omega)), show g2_25 i = g2_31 i from if_neg (by omega), show g2_31 i = g2_43 i from if_pos (own_in0r (by omega)), show g2_43 i = g2_50 i from if_neg (by omega), show g2_50 i = g2_57 i from if_neg (by omega), show g2_57 i = g2_70 i from if_pos (own_in0r (by omega)), show g2_70 i = g2_77 i from if_neg (by omega), show g2_77 i = g2_90 i from if_pos (own_in0r (by omega)), show g2_90 i = g2_103 i from if_pos (own_in0r (by omega)), show g2_103 i = g2_116 i from if_pos (own_in0r (by omega)), show g2_116 i = g2_129 i from if_pos (own_in0r (by omega)), show g2_129 i = g2_140 i from if_pos (own_in0r (by omega)), show g2_140 i = g2_151 i from if_pos (own_in0r (by omega)), show g2_151 i = g2_164 i from if_pos (own_in0l (by omega)), show g2_164 i = 1 from rfl] <;> decide
  by_cases h28 : i < 65536
  · rw [show g1_0 i = g1_6 i from if_neg (by omega), show g1_6 i = g1_12 i from if_pos (by omega), show g1_12 i = g1_18 i from if_neg (by omega), show g1_18 i = g1_24 i from if_pos (by omega), show g1_24 i = g1_30 i from if_neg (by omega), show g1_30 i = g1_37 i from if_neg (by omega), show g1_37 i = g1_44 i from if_pos (by omega), show g1_44 i = g1_51 i from if_neg (by omega), show g1_51 i = g1_58 i from if_pos (by omega), show g1_58 i = g1_65 i from if_neg (by omega), show g1_65 i = g1_72 i from if_pos (by omega), show g1_72 i = g1_79 i from if_neg (by omega), show g1_79 i = g1_86 i from if_pos (by omega), show g1_86 i = g1_93 i from if_neg (by omega), show g1_93 i = g1_100 i from if_pos (by omega), show g1_100 i = g1_107 i from if_neg (by omega), show g1_107 i = g1_114 i from if_pos (by omega), show g1_114 i = g1_121 i from if_neg (by omega), show g1_121 i = g1_128 i from if_pos (by omega), show g1_128 i = g1_135 i from if_neg (by omega), show g1_135 i = g1_142 i from if_pos (by omega), show g1_142 i = g1_149 i from if_neg (by omega), show g1_149 i = g1_155 i from if_pos (by omega), show g1_155 i = g1_161 i from if_neg (by omega), show g1_161 i = g1_167 i from if_pos (by omega), show g1_167 i = g1_173 i from if_neg (by omega), show g1_173 i = g1_179 i from if_pos (by omega), show g1_179 i = g1_195 i from if_pos (by omega), show g1_195 i = 0 from rfl, show g2_0 i = g2_6 i from if_neg (by omega), show g2_6 i = g2_14 i from if_neg (by omega), show g2_14 i = g2_25 i from if_pos (own_in0r (by omega)), show g2_25 i = g2_31 i from if_neg (by omega), show g2_31 i = g2_43 i from if_pos (own_in0r (by omega)), show g2_43 i = g2_50 i from if_neg (by omega), show g2_50 i = g2_57 i from if_neg (by omega), show g2_57 i = g2_70 i from if_pos (own_in0r (by omega)), show g2_70 i = g2_77 i from if_neg (by omega), show g2_77 i = g2_90 i from if_pos (own_in0r (by omega)), show g2_90 i = g2_103 i from if_pos (own_in0r (by omega)), show g2_103 i = g2_116 i from if_pos (own_in0r (by omega)), show g2_116 i = g2_129 i from if_pos (own_in0r (by omega)), show g2_129 i = g2_140 i from if_pos (own_in0r (by omega)), show g2_140 i = g2_151 i from if_pos (own_in0r (by omega)), show g2_151 i = g2_162 i from if_neg (own_in1 (by omega) (by omega)), show g2_162 i = 0 from rfl] <;> decide
  by_cases h29 : i < 983040
  · rw [show g1_0 i = g1_6 i from if_neg (by omega), show g1_6 i = g1_12 i from if_pos (by omega), show g1_12 i = g1_18 i from if_neg (by omega), show g1_18 i = g1_24 i from if_pos (by omega), show g1_24 i = g1_30 i from if_neg (by omega), show g1_30 i = g1_37 i from if_neg (by omega), show g1_37 i = g1_44 i from if_pos (by omega), show g1_44 i = g1_51 i from if_neg (by omega), show g1_51 i = g1_58 i from if_pos (by omega), show g1_58 i = g1_65 i from if_neg (by omega), show g1_65 i = g1_72 i from if_pos (by omega), show g1_72 i = g1_79 i from if_neg (by omega), show g1_79 i = g1_86 i from if_pos (by omega), show g1_86 i = g1_93 i from if_neg (by omega), show g1_93 i = g1_100 i from if_pos (by omega), show g1_100 i = g1_107 i from if_neg (by omega), show g1_107 i = g1_114 i from if_pos (by omega), show g1_114 i = g1_121 i from if_neg (by omega), show g1_121 i = g1_128 i from if_pos (by omega), show g1_128 i = g1_135 i from if_neg (by omega), show g1_135 i = g1_142 i from if_pos (by omega), show g1_142 i = g1_149 i from if_neg (by omega), show g1_149 i = g1_155 i from if_pos (by omega), show g1_155 i = g1_161 i from if_neg (by omega), show g1_161 i = g1_167 i from if_pos (by omega), show g1_167 i = g1_173 i from if_neg (by omega), show g1_173 i = g1_179 i from if_pos (by omega), show g1_179 i = g1_185 i from if_neg (by omega), show g1_185 i = g1_191 i from if_neg (by omega), show g1_191 i = 1 from rfl, show g2_0 i = g2_6 i from if_neg (by omega), show g2_6 i = g2_14 i from if_neg (by omega), show g2_14 i = g2_25 i from if_pos (own_in0r (by omega)), show g2_25 i = g2_31 i from if_neg (by omega), show g2_31 i = g2_43 i from if_pos (own_in0r (by omega)), show g2_43 i = g2_50 i from if_neg (by omega), show g2_50 i = g2_57 i from if_neg (by omega), show g2_57 i = g2_70 i from if_pos (own_in0r (by omega)), show g2_70 i = g2_77 i from if_neg (by omega), show g2_77 i = g2_90 i from if_pos (own_in0r (by omega)), show g2_90 i = g2_103 i from if_pos (own_in0r (by omega)), show g2_103 i = g2_116 i from if_pos (own_in0r (by omega)), show g2_116 i = g2_129 i from if_pos (own_in0r (by omega)), show g2_129 i = g2_140 i from if_pos (own_in0r (by omega)), show g2_140 i = g2_151 i from if_pos (own_in0r (by omega)), show g2_151 i = g2_164 i from if_pos (own_in0r (by omega)), show g2_164 i = 1 from rfl] <;> decide
  rw [show g1_0 i = g1_6 i from if_neg (by omega), show g1_6 i = g1_12 i from if_pos (by omega), show g1_12 i = g1_18 i from if_neg (by omega), show g1_18 i = g1_24 i from if_pos (by omega), show g1_24 i = g1_30 i from if_neg (by omega), show g1_30 i = g1_37 i from if_neg (by omega), show g1_37 i = g1_44 i from if_pos (by omega), show g1_44 i = g1_51 i from if_neg (by omega), show g1_51 i = g1_58 i from if_pos (by omega), show g1_58 i = g1_65 i from if_neg (by omega), show g1_65 i = g1_72 i from if_pos (by omega), show g1_72 i = g1_79 i from if_neg (by omega), show g1_79 i = g1_86 i from if_pos (by omega), show g1_86 i = g1_93 i from if_neg (by omega), show g1_93 i = g1_100 i from if_pos (by omega), show g1_100 i = g1_107 i from if_neg (by omega), show g1_107 i = g1_114 i from if_pos (by omega), show g1_114 i = g1_121 i from if_neg (by omega), show g1_121 i = g1_128 i from if_pos (by omega), show g1_128 i = g1_135 i from if_neg (by omega), show g1_135 i = g1_142 i from if_pos (by omega), show g1_142 i = g1_149 i from if_neg (by omega), show g1_149 i = g1_155 i from if_pos (by omega), show g1_155 i = g1_161 i from if_neg (by omega), show g1_161 i = g1_167 i from if_pos (by omega), show g1_167 i = g1_173 i from if_neg (by omega), show g1_173 i = g1_179 i from if_pos (by omega), show g1_179 i = g1_185 i from if_neg (by omega), show g1_185 i = g1_195 i from if_pos (by omega), show g1_195 i = 0 from rfl, show g2_0 i = g2_6 i from if_neg (by omega), show g2_6 i = g2_12 i from if_pos (by omega), show g2_12 i = 0 from rfl] <;> decide
theorem own_idx (x : Int32) : ∃ k : Nat, k < 30 ∧ ((x &&& (2147483647 : Int32)) % (30 : Int32)).toInt = k := by
  obtain ⟨h1, h2⟩ := Jvm.Kit.i32_and_bounds x (m := 2147483647) (by decide)
  have h0 := Jvm.Kit.i32_nonneg.mp h1
  have h1 : ((x &&& (2147483647 : Int32)) % (30 : Int32)).toInt = (x &&& (2147483647 : Int32)).toInt % 30 := by
    rw [Int32.toInt_mod, Int.tmod_eq_emod_of_nonneg h0]; rfl
  exact ⟨((x &&& (2147483647 : Int32)).toInt % 30).toNat, by omega, by omega⟩
abbrev b0 : OwnB := (x, code, maxLocals, ret, room_1)
theorem pn_0 : plainName "dev/stepflow/xdm/XmlCharsIsNameStartPinLaw" = true := by first | (simp [plainName, overriddenIn]; done) | decide +kernel
theorem pd_0 : parseMethodDescriptor "(III)Z" = some ⟨[.int, .int, .int], (some .boolean)⟩ := by decide +kernel
theorem ef_0 (p0 : Int32) (p1 : Int32) (p2 : Int32) (m : MethodId) : entryFrame m #[(.int p0), (.int p1), (.int p2)] maxLocals = mkF m 0 #[.val (.int p0), .val (.int p1), .val (.int p2), .unset, .unset] [] := by first | (simp [entryFrame, mkF, argsToLocals, Value.category, maxLocals]; done) | rfl
set_option maxRecDepth 65536 in
set_option maxHeartbeats 40000000 in
theorem own_law0 {K : OwnK} {Z : State} {n0 : Nat} {h : Heap} {a0 : Array Value} (hw : ∀ d ∈ tables_1, d.before a0 Z = true) (p0 : Int32) (p1 : Int32) (p2 : Int32) (w : own_W K b0 Z n0 h 0 0 0 #[.val (.int p0), .val (.int p1), .val (.int p2), .unset, .unset] []) : own_G K n0 b0.rm.cells b0.rm.slots (fun v _ => v = some (.int 1)) := by
  replace w : own_W K b0 Z n0 h 0 0 2 #[.val (.int p0), .val (.int p1), .val (.int p2), .unset, .unset] [(.int (30 : Int32))] := own_bipush w at_0 rfl
  obtain ⟨h_a1, a1, w, s_a1, g_a1, E_a1, A_a1⟩ := own_newI w at_2 (hw _ (List.mem_of_getElem? (i := 0) rfl)) rfl 30 30 (by decide) (Nat.le_refl _) (by decide) (by decide) (by decide) (l' := [0, 0, 0, 0, 0, 0, 0, 0, 0, 0, 0, 0, 0, 0, 0, 0, 0, 0, 0, 0, 0, 0, 0, 0, 0, 0, 0, 0, 0, 0]) rfl
  replace w : own_W K b0 Z n0 h_a1 1 30 4 #[.val (.int p0), .val (.int p1), .val (.int p2), .unset, .unset] [(.ref a1)] := w
  replace A_a1 : own_A .int Z h_a1 a1 [0, 0, 0, 0, 0, 0, 0, 0, 0, 0, 0, 0, 0, 0, 0, 0, 0, 0, 0, 0, 0, 0, 0, 0, 0, 0, 0, 0, 0, 0] := A_a1
  replace w : own_W K b0 Z n0 h_a1 1 30 5 #[.val (.int p0), .val (.int p1), .val (.int p2), .unset, .unset] [(.ref a1), (.ref a1)] := own_dup w at_4 rfl
  replace w : own_W K b0 Z n0 h_a1 1 30 6 #[.val (.int p0), .val (.int p1), .val (.int p2), .unset, .unset] [(.int (0 : Int32)), (.ref a1), (.ref a1)] := own_iconst w at_5 rfl
  replace w : own_W K b0 Z n0 h_a1 1 30 8 #[.val (.int p0), .val (.int p1), .val (.int p2), .unset, .unset] [(.int (65 : Int32)), (.int (0 : Int32)), (.ref a1), (.ref a1)] := own_bipush w at_6 rfl
  obtain ⟨h1, w, A_a1, K_h1⟩ := own_iastore w at_8 A_a1 0 (by decide) (by decide) g_a1 (l' := [65, 0, 0, 0, 0, 0, 0, 0, 0, 0, 0, 0, 0, 0, 0, 0, 0, 0, 0, 0, 0, 0, 0, 0, 0, 0, 0, 0, 0, 0]) rfl
  replace w : own_W K b0 Z n0 h1 1 30 9 #[.val (.int p0), .val (.int p1), .val (.int p2), .unset, .unset] [(.ref a1)] := w
  replace w : own_W K b0 Z n0 h1 1 30 10 #[.val (.int p0), .val (.int p1), .val (.int p2), .unset, .unset] [(.ref a1), (.ref a1)] := own_dup w at_9 rfl
  replace w : own_W K b0 Z n0 h1 1 30 11 #[.val (.int p0), .val (.int p1), .val (.int p2), .unset, .unset] [(.int (1 : Int32)), (.ref a1), (.ref a1)] := own_iconst w at_10 rfl
  replace w : own_W K b0 Z n0 h1 1 30 13 #[.val (.int p0), .val (.int p1), .val (.int p2), .unset, .unset] [(.int (91 : Int32)), (.int (1 : Int32)), (.ref a1), (.ref a1)] := own_bipush w at_11 rfl
  obtain ⟨h2, w, A_a1, K_h2⟩ := own_iastore w at_13 A_a1 1 (by decide) (by decide) g_a1 (l' := [65, 91, 0, 0, 0, 0, 0, 0, 0, 0, 0, 0, 0, 0, 0, 0, 0, 0, 0, 0, 0, 0, 0, 0, 0, 0, 0, 0, 0, 0]) rfl
  replace w : own_W K b0 Z n0 h2 1 30 14 #[.val (.int p0), .val (.int p1), .val (.int p2), .unset, .unset] [(.ref a1)] := w
  replace w : own_W K b0 Z n0 h2 1 30 15 #[.val (.int p0), .val (.int p1), .val (.int p2), .unset, .unset] [(.ref a1), (.ref a1)] := own_dup w at_14 rfl
  replace w : own_W K b0 Z n0 h2 1 30 16 #[.val (.int p0), .val (.int p1), .val (.int p2), .unset, .unset] [(.int (2 : Int32)), (.ref a1), (.ref a1)] := own_iconst w at_15 rfl
  replace w : own_W K b0 Z n0 h2 1 30 18 #[.val (.int p0), .val (.int p1), .val (.int p2), .unset, .unset] [(.int (95 : Int32)), (.int (2 : Int32)), (.ref a1), (.ref a1)] := own_bipush w at_16 rfl
  obtain ⟨h3, w, A_a1, K_h3⟩ := own_iastore w at_18 A_a1 2 (by decide) (by decide) g_a1 (l' := [65, 91, 95, 0, 0, 0, 0, 0, 0, 0, 0, 0, 0, 0, 0, 0, 0, 0, 0, 0, 0, 0, 0, 0, 0, 0, 0, 0, 0, 0]) rfl
  replace w : own_W K b0 Z n0 h3 1 30 19 #[.val (.int p0), .val (.int p1), .val (.int p2), .unset, .unset] [(.ref a1)] := w
  replace w : own_W K b0 Z n0 h3 1 30 20 #[.val (.int p0), .val (.int p1), .val (.int p2), .unset, .unset] [(.ref a1), (.ref a1)] := own_dup w at_19 rfl
  replace w : own_W K b0 Z n0 h3 1 30 21 #[.val (.int p0), .val (.int p1), .val (.int p2), .unset, .unset] [(.int (3 : Int32)), (.ref a1), (.ref a1)] := own_iconst w at_20 rfl
  replace w : own_W K b0 Z n0 h3 1 30 23 #[.val (.int p0), .val (.int p1), .val (.int p2), .unset, .unset] [(.int (96 : Int32)), (.int (3 : Int32)), (.ref a1), (.ref a1)] := own_bipush w at_21 rfl
  obtain ⟨h4, w, A_a1, K_h4⟩ := own_iastore w at_23 A_a1 3 (by decide) (by decide) g_a1 (l' := [65, 91, 95, 96, 0, 0, 0, 0, 0, 0, 0, 0, 0, 0, 0, 0, 0, 0, 0, 0, 0, 0, 0, 0, 0, 0, 0, 0, 0, 0]) rfl
  replace w : own_W K b0 Z n0 h4 1 30 24 #[.val (.int p0), .val (.int p1), .val (.int p2), .unset, .unset] [(.ref a1)] := w
  replace w : own_W K b0 Z n0 h4 1 30 25 #[.val (.int p0), .val (.int p1), .val (.int p2), .unset, .unset] [(.ref a1), (.ref a1)] := own_dup w at_24 rfl
  replace w : own_W K b0 Z n0 h4 1 30 26 #[.val (.int p0), .val (.int p1), .val (.int p2), .unset, .unset] [(.int (4 : Int32)), (.ref a1), (.ref a1)] := own_iconst w at_25 rfl
  replace w : own_W K b0 Z n0 h4 1 30 28 #[.val (.int p0), .val (.int p1), .val (.int p2), .unset, .unset] [(.int (97 : Int32)), (.int (4 : Int32)), (.ref a1), (.ref a1)] := own_bipush w at_26 rfl
  obtain ⟨h5, w, A_a1, K_h5⟩ := own_iastore w at_28 A_a1 4 (by decide) (by decide) g_a1 (l' := [65, 91, 95, 96, 97, 0, 0, 0, 0, 0, 0, 0, 0, 0, 0, 0, 0, 0, 0, 0, 0, 0, 0, 0, 0, 0, 0, 0, 0, 0]) rfl
  replace w : own_W K b0 Z n0 h5 1 30 29 #[.val (.int p0), .val (.int p1), .val (.int p2), .unset, .unset] [(.ref a1)] := w
  replace w : own_W K b0 Z n0 h5 1 30 30 #[.val (.int p0), .val (.int p1), .val (.int p2), .unset, .unset] [(.ref a1), (.ref a1)] := own_dup w at_29 rfl
  replace w : own_W K b0 Z n0 h5 1 30 31 #[.val (.int p0), .val (.int p1), .val (.int p2), .unset, .unset] [(.int (5 : Int32)), (.ref a1), (.ref a1)] := own_iconst w at_30 rfl
  replace w : own_W K b0 Z n0 h5 1 30 33 #[.val (.int p0), .val (.int p1), .val (.int p2), .unset, .unset] [(.int (123 : Int32)), (.int (5 : Int32)), (.ref a1), (.ref a1)] := own_bipush w at_31 rfl
  obtain ⟨h6, w, A_a1, K_h6⟩ := own_iastore w at_33 A_a1 5 (by decide) (by decide) g_a1 (l' := [65, 91, 95, 96, 97, 123, 0, 0, 0, 0, 0, 0, 0, 0, 0, 0, 0, 0, 0, 0, 0, 0, 0, 0, 0, 0, 0, 0, 0, 0]) rfl
  replace w : own_W K b0 Z n0 h6 1 30 34 #[.val (.int p0), .val (.int p1), .val (.int p2), .unset, .unset] [(.ref a1)] := w
  replace w : own_W K b0 Z n0 h6 1 30 35 #[.val (.int p0), .val (.int p1), .val (.int p2), .unset, .unset] [(.ref a1), (.ref a1)] := own_dup w at_34 rfl
  replace w : own_W K b0 Z n0 h6 1 30 37 #[.val (.int p0), .val (.int p1), .val (.int p2), .unset, .unset] [(.int (6 : Int32)), (.ref a1), (.ref a1)] := own_bipush w at_35 rfl
  replace w : own_W K b0 Z n0 h6 1 30 40 #[.val (.int p0), .val (.int p1), .val (.int p2), .unset, .unset] [(.int (192 : Int32)), (.int (6 : Int32)), (.ref a1), (.ref a1)] := own_sipush w at_37 rfl
  obtain ⟨h7, w, A_a1, K_h7⟩ := own_iastore w at_40 A_a1 6 (by decide) (by decide) g_a1 (l' := [65, 91, 95, 96, 97, 123, 192, 0, 0, 0, 0, 0, 0, 0, 0, 0, 0, 0, 0, 0, 0, 0, 0, 0, 0, 0, 0, 0, 0, 0]) rfl
  replace w : own_W K b0 Z n0 h7 1 30 41 #[.val (.int p0), .val (.int p1), .val (.int p2), .unset, .unset] [(.ref a1)] := w
  replace w : own_W K b0 Z n0 h7 1 30 42 #[.val (.int p0), .val (.int p1), .val (.int p2), .unset, .unset] [(.ref a1), (.ref a1)] := own_dup w at_41 rfl
  replace w : own_W K b0 Z n0 h7 1 30 44 #[.val (.int p0), .val (.int p1), .val (.int p2), .unset, .unset] [(.int (7 : Int32)), (.ref a1), (.ref a1)] := own_bipush w at_42 rfl
  replace w : own_W K b0 Z n0 h7 1 30 47 #[.val (.int p0), .val (.int p1), .val (.int p2), .unset, .unset] [(.int (215 : Int32)), (.int (7 : Int32)), (.ref a1), (.ref a1)] := own_sipush w at_44 rfl
  obtain ⟨h8, w, A_a1, K_h8⟩ := own_iastore w at_47 A_a1 7 (by decide) (by decide) g_a1 (l' := [65, 91, 95, 96, 97, 123, 192, 215, 0, 0, 0, 0, 0, 0, 0, 0, 0, 0, 0, 0, 0, 0, 0, 0, 0, 0, 0, 0, 0, 0]) rfl
  replace w : own_W K b0 Z n0 h8 1 30 48 #[.val (.int p0), .val (.int p1), .val (.int p2), .unset, .unset] [(.ref a1)] := w
  replace w : own_W K b0 Z n0 h8 1 30 49 #[.val (.int p0), .val (.int p1), .val (.int p2), .unset, .unset] [(.ref a1), (.ref a1)] := own_dup w at_48 rfl
  replace w : own_W K b0 Z n0 h8 1 30 51 #[.val (.int p0), .val (.int p1), .val (.int p2), .unset, .unset] [(.int (8 : Int32)), (.ref a1), (.ref a1)] := own_bipush w at_49 rfl
  replace w : own_W K b0 Z n0 h8 1 30 54 #[.val (.int p0), .val (.int p1), .val (.int p2), .unset, .unset] [(.int (216 : Int32)), (.int (8 : Int32)), (.ref a1), (.ref a1)] := own_sipush w at_51 rfl
  obtain ⟨h9, w, A_a1, K_h9⟩ := own_iastore w at_54 A_a1 8 (by decide) (by decide) g_a1 (l' := [65, 91, 95, 96, 97, 123, 192, 215, 216, 0, 0, 0, 0, 0, 0, 0, 0, 0, 0, 0, 0, 0, 0, 0, 0, 0, 0, 0, 0, 0]) rfl
  replace w : own_W K b0 Z n0 h9 1 30 55 #[.val (.int p0), .val (.int p1), .val (.int p2), .unset, .unset] [(.ref a1)] := w
  replace w : own_W K b0 Z n0 h9 1 30 56 #[.val (.int p0), .val (.int p1), .val (.int p2), .unset, .unset] [(.ref a1), (.ref a1)] := own_dup w at_55 rfl
  replace w : own_W K b0 Z n0 h9 1 30 58 #[.val (.int p0), .val (.int p1), .val (.int p2), .unset, .unset] [(.int (9 : Int32)), (.ref a1), (.ref a1)] := own_bipush w at_56 rfl
  replace w : own_W K b0 Z n0 h9 1 30 61 #[.val (.int p0), .val (.int p1), .val (.int p2), .unset, .unset] [(.int (247 : Int32)), (.int (9 : Int32)), (.ref a1), (.ref a1)] := own_sipush w at_58 rfl
  obtain ⟨h10, w, A_a1, K_h10⟩ := own_iastore w at_61 A_a1 9 (by decide) (by decide) g_a1 (l' := [65, 91, 95, 96, 97, 123, 192, 215, 216, 247, 0, 0, 0, 0, 0, 0, 0, 0, 0, 0, 0, 0, 0, 0, 0, 0, 0, 0, 0, 0]) rfl
  replace w : own_W K b0 Z n0 h10 1 30 62 #[.val (.int p0), .val (.int p1), .val (.int p2), .unset, .unset] [(.ref a1)] := w
  replace w : own_W K b0 Z n0 h10 1 30 63 #[.val (.int p0), .val (.int p1), .val (.int p2), .unset, .unset] [(.ref a1), (.ref a1)] := own_dup w at_62 rfl
  replace w : own_W K b0 Z n0 h10 1 30 65 #[.val (.int p0), .val (.int p1), .val (.int p2), .unset, .unset] [(.int (10 : Int32)), (.ref a1), (.ref a1)] := own_bipush w at_63 rfl
  replace w : own_W K b0 Z n0 h10 1 30 68 #[.val (.int p0), .val (.int p1), .val (.int p2), .unset, .unset] [(.int (248 : Int32)), (.int (10 : Int32)), (.ref a1), (.ref a1)] := own_sipush w at_65 rfl
  obtain ⟨h11, w, A_a1, K_h11⟩ := own_iastore w at_68 A_a1 10 (by decide) (by decide) g_a1 (l' := [65, 91, 95, 96, 97, 123, 192, 215, 216, 247, 248, 0, 0, 0, 0, 0, 0, 0, 0, 0, 0, 0, 0, 0, 0, 0, 0, 0, 0, 0]) rfl
  replace w : own_W K b0 Z n0 h11 1 30 69 #[.val (.int p0), .val (.int p1), .val (.int p2), .unset, .unset] [(.ref a1)] := w
  replace w : own_W K b0 Z n0 h11 1 30 70 #[.val (.int p0), .val (.int p1), .val (.int p2), .unset, .unset] [(.ref a1), (.ref a1)] := own_dup w at_69 rfl
  replace w : own_W K b0 Z n0 h11 1 30 72 #[.val (.int p0), .val (.int p1), .val (.int p2), .unset, .unset] [(.int (11 : Int32)), (.ref a1), (.ref a1)] := own_bipush w at_70 rfl
  replace w : own_W K b0 Z n0 h11 1 30 75 #[.val (.int p0), .val (.int p1), .val (.int p2), .unset, .unset] [(.int (768 : Int32)), (.int (11 : Int32)), (.ref a1), (.ref a1)] := own_sipush w at_72 rfl
  obtain ⟨h12, w, A_a1, K_h12⟩ := own_iastore w at_75 A_a1 11 (by decide) (by decide) g_a1 (l' := [65, 91, 95, 96, 97, 123, 192, 215, 216, 247, 248, 768, 0, 0, 0, 0, 0, 0, 0, 0, 0, 0, 0, 0, 0, 0, 0, 0, 0, 0]) rfl
  replace w : own_W K b0 Z n0 h12 1 30 76 #[.val (.int p0), .val (.int p1), .val (.int p2), .unset, .unset] [(.ref a1)] := w
  replace w : own_W K b0 Z n0 h12 1 30 77 #[.val (.int p0), .val (.int p1), .val (.int p2), .unset, .unset] [(.ref a1), (.ref a1)] := own_dup w at_76 rfl
  replace w : own_W K b0 Z n0 h12 1 30 79 #[.val (.int p0), .val (.int p1), .val (.int p2), .unset, .unset] [(.int (12 : Int32)), (.ref a1), (.ref a1)] := own_bipush w at_77 rfl
  replace w : own_W K b0 Z n0 h12 1 30 82 #[.val (.int p0), .val (.int p1), .val (.int p2), .unset, .unset] [(.int (880 : Int32)), (.int (12 : Int32)), (.ref a1), (.ref a1)] := own_sipush w at_79 rfl
  obtain ⟨h13, w, A_a1, K_h13⟩ := own_iastore w at_82 A_a1 12 (by decide) (by decide) g_a1 (l' := [65, 91, 95, 96, 97, 123, 192, 215, 216, 247, 248, 768, 880, 0, 0, 0, 0, 0, 0, 0, 0, 0, 0, 0, 0, 0, 0, 0, 0, 0]) rfl
  replace w : own_W K b0 Z n0 h13 1 30 83 #[.val (.int p0), .val (.int p1), .val (.int p2), .unset, .unset] [(.ref a1)] := w
  replace w : own_W K b0 Z n0 h13 1 30 84 #[.val (.int p0), .val (.int p1), .val (.int p2), .unset, .unset] [(.ref a1), (.ref a1)] := own_dup w at_83 rfl
  replace w : own_W K b0 Z n0 h13 1 30 86 #[.val (.int p0), .val (.int p1), .val (.int p2), .unset, .unset] [(.int (13 : Int32)), (.ref a1), (.ref a1)] := own_bipush w at_84 rfl
  replace w : own_W K b0 Z n0 h13 1 30 89 #[.val (.int p0), .val (.int p1), .val (.int p2), .unset, .unset] [(.int (894 : Int32)), (.int (13 : Int32)), (.ref a1), (.ref a1)] := own_sipush w at_86 rfl
  obtain ⟨h14, w, A_a1, K_h14⟩ := own_iastore w at_89 A_a1 13 (by decide) (by decide) g_a1 (l' := [65, 91, 95, 96, 97, 123, 192, 215, 216, 247, 248, 768, 880, 894, 0, 0, 0, 0, 0, 0, 0, 0, 0, 0, 0, 0, 0, 0, 0, 0]) rfl
  replace w : own_W K b0 Z n0 h14 1 30 90 #[.val (.int p0), .val (.int p1), .val (.int p2), .unset, .unset] [(.ref a1)] := w
  replace w : own_W K b0 Z n0 h14 1 30 91 #[.val (.int p0), .val (.int p1), .val (.int p2), .unset, .unset] [(.ref a1), (.ref a1)] := own_dup w at_90 rfl
  replace w : own_W K b0 Z n0 h14 1 30 93 #[.val (.int p0), .val (.int p1), .val (.int p2), .unset, .unset] [(.int (14 : Int32)), (.ref a1), (.ref a1)] := own_bipush w at_91 rfl
  replace w : own_W K b0 Z n0 h14 1 30 96 #[.val (.int p0), .val (.int p1), .val (.int p2), .unset, .unset] [(.int (895 : Int32)), (.int (14 : Int32)), (.ref a1), (.ref a1)] := own_sipush w at_93 rfl
  obtain ⟨h15, w, A_a1, K_h15⟩ := own_iastore w at_96 A_a1 14 (by decide) (by decide) g_a1 (l' := [65, 91, 95, 96, 97, 123, 192, 215, 216, 247, 248, 768, 880, 894, 895, 0, 0, 0, 0, 0, 0, 0, 0, 0, 0, 0, 0, 0, 0, 0]) rfl
  replace w : own_W K b0 Z n0 h15 1 30 97 #[.val (.int p0), .val (.int p1), .val (.int p2), .unset, .unset] [(.ref a1)] := w
  replace w : own_W K b0 Z n0 h15 1 30 98 #[.val (.int p0), .val (.int p1), .val (.int p2), .unset, .unset] [(.ref a1), (.ref a1)] := own_dup w at_97 rfl
  replace w : own_W K b0 Z n0 h15 1 30 100 #[.val (.int p0), .val (.int p1), .val (.int p2), .unset, .unset] [(.int (15 : Int32)), (.ref a1), (.ref a1)] := own_bipush w at_98 rfl
  replace w : own_W K b0 Z n0 h15 1 30 103 #[.val (.int p0), .val (.int p1), .val (.int p2), .unset, .unset] [(.int (8192 : Int32)), (.int (15 : Int32)), (.ref a1), (.ref a1)] := own_sipush w at_100 rfl
  obtain ⟨h16, w, A_a1, K_h16⟩ := own_iastore w at_103 A_a1 15 (by decide) (by decide) g_a1 (l' := [65, 91, 95, 96, 97, 123, 192, 215, 216, 247, 248, 768, 880, 894, 895, 8192, 0, 0, 0, 0, 0, 0, 0, 0, 0, 0, 0, 0, 0, 0]) rfl
  replace w : own_W K b0 Z n0 h16 1 30 104 #[.val (.int p0), .val (.int p1), .val (.int p2), .unset, .unset] [(.ref a1)] := w
  replace w : own_W K b0 Z n0 h16 1 30 105 #[.val (.int p0), .val (.int p1), .val (.int p2), .unset, .unset] [(.ref a1), (.ref a1)] := own_dup w at_104 rfl
  replace w : own_W K b0 Z n0 h16 1 30 107 #[.val (.int p0), .val (.int p1), .val (.int p2), .unset, .unset] [(.int (16 : Int32)), (.ref a1), (.ref a1)] := own_bipush w at_105 rfl
  replace w : own_W K b0 Z n0 h16 1 30 110 #[.val (.int p0), .val (.int p1), .val (.int p2), .unset, .unset] [(.int (8204 : Int32)), (.int (16 : Int32)), (.ref a1), (.ref a1)] := own_sipush w at_107 rfl
  obtain ⟨h17, w, A_a1, K_h17⟩ := own_iastore w at_110 A_a1 16 (by decide) (by decide) g_a1 (l' := [65, 91, 95, 96, 97, 123, 192, 215, 216, 247, 248, 768, 880, 894, 895, 8192, 8204, 0, 0, 0, 0, 0, 0, 0, 0, 0, 0, 0, 0, 0]) rfl
  replace w : own_W K b0 Z n0 h17 1 30 111 #[.val (.int p0), .val (.int p1), .val (.int p2), .unset, .unset] [(.ref a1)] := w
  replace w : own_W K b0 Z n0 h17 1 30 112 #[.val (.int p0), .val (.int p1), .val (.int p2), .unset, .unset] [(.ref a1), (.ref a1)] := own_dup w at_111 rfl
  replace w : own_W K b0 Z n0 h17 1 30 114 #[.val (.int p0), .val (.int p1), .val (.int p2), .unset, .unset] [(.int (17 : Int32)), (.ref a1), (.ref a1)] := own_bipush w at_112 rfl
  replace w : own_W K b0 Z n0 h17 1 30 117 #[.val (.int p0), .val (.int p1), .val (.int p2), .unset, .unset] [(.int (8206 : Int32)), (.int (17 : Int32)), (.ref a1), (.ref a1)] := own_sipush w at_114 rfl
  obtain ⟨h18, w, A_a1, K_h18⟩ := own_iastore w at_117 A_a1 17 (by decide) (by decide) g_a1 (l' := [65, 91, 95, 96, 97, 123, 192, 215, 216, 247, 248, 768, 880, 894, 895, 8192, 8204, 8206, 0, 0, 0, 0, 0, 0, 0, 0, 0, 0, 0, 0]) rfl
  replace w : own_W K b0 Z n0 h18 1 30 118 #[.val (.int p0), .val (.int p1), .val (.int p2), .unset, .unset] [(.ref a1)] := w
  replace w : own_W K b0 Z n0 h18 1 30 119 #[.val (.int p0), .val (.int p1), .val (.int p2), .unset, .unset] [(.ref a1), (.ref a1)] := own_dup w at_118 rfl
  replace w : own_W K b0 Z n0 h18 1 30 121 #[.val (.int p0), .val (.int p1), .val (.int p2), .unset, .unset] [(.int (18 : Int32)), (.ref a1), (.ref a1)] := own_bipush w at_119 rfl
  replace w : own_W K b0 Z n0 h18 1 30 124 #[.val (.int p0), .val (.int p1), .val (.int p2), .unset, .unset] [(.int (8304 : Int32)), (.int (18 : Int32)), (.ref a1), (.ref a1)] := own_sipush w at_121 rfl
  obtain ⟨h19, w, A_a1, K_h19⟩ := own_iastore w at_124 A_a1 18 (by decide) (by decide) g_a1 (l' := [65, 91, 95, 96, 97, 123, 192, 215, 216, 247, 248, 768, 880, 894, 895, 8192, 8204, 8206, 8304, 0, 0, 0, 0, 0, 0, 0, 0, 0, 0, 0]) rfl
  replace w : own_W K b0 Z n0 h19 1 30 125 #[.val (.int p0), .val (.int p1), .val (.int p2), .unset, .unset] [(.ref a1)] := w
  replace w : own_W K b0 Z n0 h19 1 30 126 #[.val (.int p0), .val (.int p1), .val (.int p2), .unset, .unset] [(.ref a1), (.ref a1)] := own_dup w at_125 rfl
  replace w : own_W K b0 Z n0 h19 1 30 128 #[.val (.int p0), .val (.int p1), .val (.int p2), .unset, .unset] [(.int (19 : Int32)), (.ref a1), (.ref a1)] := own_bipush w at_126 rfl
  replace w : own_W K b0 Z n0 h19 1 30 131 #[.val (.int p0), .val (.int p1), .val (.int p2), .unset, .unset] [(.int (8592 : Int32)), (.int (19 : Int32)), (.ref a1), (.ref a1)] := own_sipush w at_128 rfl
  obtain ⟨h20, w, A_a1, K_h20⟩ := own_iastore w at_131 A_a1 19 (by decide) (by decide) g_a1 (l' := [65, 91, 95, 96, 97, 123, 192, 215, 216, 247, 248, 768, 880, 894, 895, 8192, 8204, 8206, 8304, 8592, 0, 0, 0, 0, 0, 0, 0, 0, 0, 0]) rfl
  replace w : own_W K b0 Z n0 h20 1 30 132 #[.val (.int p0), .val (.int p1), .val (.int p2), .unset, .unset] [(.ref a1)] := w
  replace w : own_W K b0 Z n0 h20 1 30 133 #[.val (.int p0), .val (.int p1), .val (.int p2), .unset, .unset] [(.ref a1), (.ref a1)] := own_dup w at_132 rfl
  replace w : own_W K b0 Z n0 h20 1 30 135 #[.val (.int p0), .val (.int p1), .val (.int p2), .unset, .unset] [(.int (20 : Int32)), (.ref a1), (.ref a1)] := own_bipush w at_133 rfl
  replace w : own_W K b0 Z n0 h20 1 30 138 #[.val (.int p0), .val (.int p1), .val (.int p2), .unset, .unset] [(.int (11264 : Int32)), (.int (20 : Int32)), (.ref a1), (.ref a1)] := own_sipush w at_135 rfl
  obtain ⟨h21, w, A_a1, K_h21⟩ := own_iastore w at_138 A_a1 20 (by decide) (by decide) g_a1 (l' := [65, 91, 95, 96, 97, 123, 192, 215, 216, 247, 248, 768, 880, 894, 895, 8192, 8204, 8206, 8304, 8592, 11264, 0, 0, 0, 0, 0, 0, 0, 0, 0]) rfl
  replace w : own_W K b0 Z n0 h21 1 30 139 #[.val (.int p0), .val (.int p1), .val (.int p2), .unset, .unset] [(.ref a1)] := w
  replace w : own_W K b0 Z n0 h21 1 30 140 #[.val (.int p0), .val (.int p1), .val (.int p2), .unset, .unset] [(.ref a1), (.ref a1)] := own_dup w at_139 rfl
  replace w : own_W K b0 Z n0 h21 1 30 142 #[.val (.int p0), .val (.int p1), .val (.int p2), .unset, .unset] [(.int (21 : Int32)), (.ref a1), (.ref a1)] := own_bipush w at_140 rfl
  replace w : own_W K b0 Z n0 h21 1 30 145 #[.val (.int p0), .val (.int p1), .val (.int p2), .unset, .unset] [(.int (12272 : Int32)), (.int (21 : Int32)), (.ref a1), (.ref a1)] := own_sipush w at_142 rfl
  obtain ⟨h22, w, A_a1, K_h22⟩ := own_iastore w at_145 A_a1 21 (by decide) (by decide) g_a1 (l' := [65, 91, 95, 96, 97, 123, 192, 215, 216, 247, 248, 768, 880, 894, 895, 8192, 8204, 8206, 8304, 8592, 11264, 12272, 0, 0, 0, 0, 0, 0, 0, 0]) rfl
  replace w : own_W K b0 Z n0 h22 1 30 146 #[.val (.int p0), .val (.int p1), .val (.int p2), .unset, .unset] [(.ref a1)] := w
  replace w : own_W K b0 Z n0 h22 1 30 147 #[.val (.int p0), .val (.int p1), .val (.int p2), .unset, .unset] [(.ref a1), (.ref a1)] := own_dup w at_146 rfl
  replace w : own_W K b0 Z n0 h22 1 30 149 #[.val (.int p0), .val (.int p1), .val (.int p2), .unset, .unset] [(.int (22 : Int32)), (.ref a1), (.ref a1)] := own_bipush w at_147 rfl
  replace w : own_W K b0 Z n0 h22 1 30 152 #[.val (.int p0), .val (.int p1), .val (.int p2), .unset, .unset] [(.int (12289 : Int32)), (.int (22 : Int32)), (.ref a1), (.ref a1)] := own_sipush w at_149 rfl
  obtain ⟨h23, w, A_a1, K_h23⟩ := own_iastore w at_152 A_a1 22 (by decide) (by decide) g_a1 (l' := [65, 91, 95, 96, 97, 123, 192, 215, 216, 247, 248, 768, 880, 894, 895, 8192, 8204, 8206, 8304, 8592, 11264, 12272, 12289, 0, 0, 0, 0, 0, 0, 0]) rfl
  replace w : own_W K b0 Z n0 h23 1 30 153 #[.val (.int p0), .val (.int p1), .val (.int p2), .unset, .unset] [(.ref a1)] := w
  replace w : own_W K b0 Z n0 h23 1 30 154 #[.val (.int p0), .val (.int p1), .val (.int p2), .unset, .unset] [(.ref a1), (.ref a1)] := own_dup w at_153 rfl
  replace w : own_W K b0 Z n0 h23 1 30 156 #[.val (.int p0), .val (.int p1), .val (.int p2), .unset, .unset] [(.int (23 : Int32)), (.ref a1), (.ref a1)] := own_bipush w at_154 rfl
  replace w : own_W K b0 Z n0 h23 1 30 158 #[.val (.int p0), .val (.int p1), .val (.int p2), .unset, .unset] [(.int (55296 : Int32)), (.int (23 : Int32)), (.ref a1), (.ref a1)] := own_ldc w at_156 (hw _ (List.mem_of_getElem? (i := 1) rfl))
  obtain ⟨h24, w, A_a1, K_h24⟩ := own_iastore w at_158 A_a1 23 (by decide) (by decide) g_a1 (l' := [65, 91, 95, 96, 97, 123, 192, 215, 216, 247, 248, 768, 880, 894, 895, 8192, 8204, 8206, 8304, 8592, 11264, 12272, 12289, 55296, 0, 0, 0, 0, 0, 0]) rfl
  replace w : own_W K b0 Z n0 h24 1 30 159 #[.val (.int p0), .val (.int p1), .val (.int p2), .unset, .unset] [(.ref a1)] := w
  replace w : own_W K b0 Z n0 h24 1 30 160 #[.val (.int p0), .val (.int p1), .val (.int p2), .unset, .unset] [(.ref a1), (.ref a1)] := own_dup w at_159 rfl
  replace w : own_W K b0 Z n0 h24 1 30 162 #[.val (.int p0), .val (.int p1), .val (.int p2), .unset, .unset] [(.int (24 : Int32)), (.ref a1), (.ref a1)] := own_bipush w at_160 rfl
  replace w : own_W K b0 Z n0 h24 1 30 164 #[.val (.int p0), .val (.int p1), .val (.int p2), .unset, .unset] [(.int (63744 : Int32)), (.int (24 : Int32)), (.ref a1), (.ref a1)] := own_ldc w at_162 (hw _ (List.mem_of_getElem? (i := 2) rfl))
  obtain ⟨h25, w, A_a1, K_h25⟩ := own_iastore w at_164 A_a1 24 (by decide) (by decide) g_a1 (l' := [65, 91, 95, 96, 97, 123, 192, 215, 216, 247, 248, 768, 880, 894, 895, 8192, 8204, 8206, 8304, 8592, 11264, 12272, 12289, 55296, 63744, 0, 0, 0, 0, 0]) rfl
  replace w : own_W K b0 Z n0 h25 1 30 165 #[.val (.int p0), .val (.int p1), .val (.int p2), .unset, .unset] [(.ref a1)] := w
  replace w : own_W K b0 Z n0 h25 1 30 166 #[.val (.int p0), .val (.int p1), .val (.int p2), .unset, .unset] [(.ref a1), (.ref a1)] := own_dup w at_165 rfl
  replace w : own_W K b0 Z n0 h25 1 30 168 #[.val (.int p0), .val (.int p1), .val (.int p2), .unset, .unset] [(.int (25 : Int32)), (.ref a1), (.ref a1)] := own_bipush w at_166 rfl
  replace w : own_W K b0 Z n0 h25 1 30 170 #[.val (.int p0), .val (.int p1), .val (.int p2), .unset, .unset] [(.int (64976 : Int32)), (.int (25 : Int32)), (.ref a1), (.ref a1)] := own_ldc w at_168 (hw _ (List.mem_of_getElem? (i := 3) rfl))
  obtain ⟨h26, w, A_a1, K_h26⟩ := own_iastore w at_170 A_a1 25 (by decide) (by decide) g_a1 (l' := [65, 91, 95, 96, 97, 123, 192, 215, 216, 247, 248, 768, 880, 894, 895, 8192, 8204, 8206, 8304, 8592, 11264, 12272, 12289, 55296, 63744, 64976, 0, 0, 0, 0]) rfl
  replace w : own_W K b0 Z n0 h26 1 30 171 #[.val (.int p0), .val (.int p1), .val (.int p2), .unset, .unset] [(.ref a1)] := w
  replace w : own_W K b0 Z n0 h26 1 30 172 #[.val (.int p0), .val (.int p1), .val (.int p2), .unset, .unset] [(.ref a1), (.ref a1)] := own_dup w at_171 rfl
  replace w : own_W K b0 Z n0 h26 1 30 174 #[.val (.int p0), .val (.int p1), .val (.int p2), .unset, .unset] [(.int (26 : Int32)), (.ref a1), (.ref a1)] := own_bipush w at_172 rfl
  replace w : own_W K b0 Z n0 h26 1 30 176 #[.val (.int p0), .val (.int p1), .val (.int p2), .unset, .unset] [(.int (65008 : Int32)), (.int (26 : Int32)), (.ref a1), (.ref a1)] := own_ldc w at_174 (hw _ (List.mem_of_getElem? (i := 4) rfl))
  obtain ⟨h27, w, A_a1, K_h27⟩ := own_iastore w at_176 A_a1 26 (by decide) (by decide) g_a1 (l' := [65, 91, 95, 96, 97, 123, 192, 215, 216, 247, 248, 768, 880, 894, 895, 8192, 8204, 8206, 8304, 8592, 11264, 12272, 12289, 55296, 63744, 64976, 65008, 0, 0, 0]) rfl
  replace w : own_W K b0 Z n0 h27 1 30 177 #[.val (.int p0), .val (.int p1), .val (.int p2), .unset, .unset] [(.ref a1)] := w
  replace w : own_W K b0 Z n0 h27 1 30 178 #[.val (.int p0), .val (.int p1), .val (.int p2), .unset, .unset] [(.ref a1), (.ref a1)] := own_dup w at_177 rfl
  replace w : own_W K b0 Z n0 h27 1 30 180 #[.val (.int p0), .val (.int p1), .val (.int p2), .unset, .unset] [(.int (27 : Int32)), (.ref a1), (.ref a1)] := own_bipush w at_178 rfl
  replace w : own_W K b0 Z n0 h27 1 30 182 #[.val (.int p0), .val (.int p1), .val (.int p2), .unset, .unset] [(.int (65534 : Int32)), (.int (27 : Int32)), (.ref a1), (.ref a1)] := own_ldc w at_180 (hw _ (List.mem_of_getElem? (i := 5) rfl))
  obtain ⟨h28, w, A_a1, K_h28⟩ := own_iastore w at_182 A_a1 27 (by decide) (by decide) g_a1 (l' := [65, 91, 95, 96, 97, 123, 192, 215, 216, 247, 248, 768, 880, 894, 895, 8192, 8204, 8206, 8304, 8592, 11264, 12272, 12289, 55296, 63744, 64976, 65008, 65534, 0, 0]) rfl
  replace w : own_W K b0 Z n0 h28 1 30 183 #[.val (.int p0), .val (.int p1), .val (.int p2), .unset, .unset] [(.ref a1)] := w
  replace w : own_W K b0 Z n0 h28 1 30 184 #[.val (.int p0), .val (.int p1), .val (.int p2), .unset, .unset] [(.ref a1), (.ref a1)] := own_dup w at_183 rfl
  replace w : own_W K b0 Z n0 h28 1 30 186 #[.val (.int p0), .val (.int p1), .val (.int p2), .unset, .unset] [(.int (28 : Int32)), (.ref a1), (.ref a1)] := own_bipush w at_184 rfl
  replace w : own_W K b0 Z n0 h28 1 30 188 #[.val (.int p0), .val (.int p1), .val (.int p2), .unset, .unset] [(.int (65536 : Int32)), (.int (28 : Int32)), (.ref a1), (.ref a1)] := own_ldc w at_186 (hw _ (List.mem_of_getElem? (i := 6) rfl))
  obtain ⟨h29, w, A_a1, K_h29⟩ := own_iastore w at_188 A_a1 28 (by decide) (by decide) g_a1 (l' := [65, 91, 95, 96, 97, 123, 192, 215, 216, 247, 248, 768, 880, 894, 895, 8192, 8204, 8206, 8304, 8592, 11264, 12272, 12289, 55296, 63744, 64976, 65008, 65534, 65536, 0]) rfl
  replace w : own_W K b0 Z n0 h29 1 30 189 #[.val (.int p0), .val (.int p1), .val (.int p2), .unset, .unset] [(.ref a1)] := w
  replace w : own_W K b0 Z n0 h29 1 30 190 #[.val (.int p0), .val (.int p1), .val (.int p2), .unset, .unset] [(.ref a1), (.ref a1)] := own_dup w at_189 rfl
  replace w : own_W K b0 Z n0 h29 1 30 192 #[.val (.int p0), .val (.int p1), .val (.int p2), .unset, .unset] [(.int (29 : Int32)), (.ref a1), (.ref a1)] := own_bipush w at_190 rfl
  replace w : own_W K b0 Z n0 h29 1 30 194 #[.val (.int p0), .val (.int p1), .val (.int p2), .unset, .unset] [(.int (983040 : Int32)), (.int (29 : Int32)), (.ref a1), (.ref a1)] := own_ldc w at_192 (hw _ (List.mem_of_getElem? (i := 7) rfl))
  obtain ⟨h30, w, A_a1, K_h30⟩ := own_iastore w at_194 A_a1 29 (by decide) (by decide) g_a1 (l' := [65, 91, 95, 96, 97, 123, 192, 215, 216, 247, 248, 768, 880, 894, 895, 8192, 8204, 8206, 8304, 8592, 11264, 12272, 12289, 55296, 63744, 64976, 65008, 65534, 65536, 983040]) rfl
  replace w : own_W K b0 Z n0 h30 1 30 195 #[.val (.int p0), .val (.int p1), .val (.int p2), .unset, .unset] [(.ref a1)] := w
  replace w : own_W K b0 Z n0 h30 1 30 196 #[.val (.int p0), .val (.int p1), .val (.int p2), .val (.ref a1), .unset] [] := own_astoreN w at_195 rfl
  replace w : own_W K b0 Z n0 h30 1 30 197 #[.val (.int p0), .val (.int p1), .val (.int p2), .val (.ref a1), .unset] [(.ref a1)] := own_aloadN w at_196 rfl
  replace w : own_W K b0 Z n0 h30 1 30 198 #[.val (.int p0), .val (.int p1), .val (.int p2), .val (.ref a1), .unset] [(.int p1), (.ref a1)] := own_iloadN w at_197 rfl
  replace w : own_W K b0 Z n0 h30 1 30 200 #[.val (.int p0), .val (.int p1), .val (.int p2), .val (.ref a1), .unset] [(.int (2147483647 : Int32)), (.int p1), (.ref a1)] := own_ldc w at_198 (hw _ (List.mem_of_getElem? (i := 8) rfl))
  replace w : own_W K b0 Z n0 h30 1 30 201 #[.val (.int p0), .val (.int p1), .val (.int p2), .val (.ref a1), .unset] [(.int (p1 &&& (2147483647 : Int32))), (.ref a1)] := own_iand w at_200
  replace w : own_W K b0 Z n0 h30 1 30 202 #[.val (.int p0), .val (.int p1), .val (.int p2), .val (.ref a1), .unset] [(.ref a1), (.int (p1 &&& (2147483647 : Int32))), (.ref a1)] := own_aloadN w at_201 rfl
  replace w : own_W K b0 Z n0 h30 1 30 203 #[.val (.int p0), .val (.int p1), .val (.int p2), .val (.ref a1), .unset] [(.int (30 : Int32)), (.int (p1 &&& (2147483647 : Int32))), (.ref a1)] := own_alen w at_202 A_a1
  replace w : own_W K b0 Z n0 h30 1 30 204 #[.val (.int p0), .val (.int p1), .val (.int p2), .val (.ref a1), .unset] [(.int ((p1 &&& (2147483647 : Int32)) % (30 : Int32))), (.ref a1)] := own_irem w at_203 (by decide)
  have hn := own_size w
  obtain ⟨k, hk, ek⟩ := own_idx p1
  replace w : own_W K b0 Z n0 h30 1 30 205 #[.val (.int p0), .val (.int p1), .val (.int p2), .val (.ref a1), .unset] [(.int ([65, 91, 95, 96, 97, 123, 192, 215, 216, 247, 248, 768, 880, 894, 895, 8192, 8204, 8206, 8304, 8592, 11264, 12272, 12289, 55296, 63744, 64976, 65008, 65534, 65536, 983040].getD k 0))] := own_iaload w at_204 A_a1 k ek hk rfl
  replace w : own_W K b0 Z n0 h30 1 30 206 #[.val (.int p0), .val (.int p1), .val (.int p2), .val (.ref a1), .unset] [(.int p2), (.int ([65, 91, 95, 96, 97, 123, 192, 215, 216, 247, 248, 768, 880, 894, 895, 8192, 8204, 8206, 8304, 8592, 11264, 12272, 12289, 55296, 63744, 64976, 65008, 65534, 65536, 983040].getD k 0))] := own_iloadN w at_205 rfl
  replace w : own_W K b0 Z n0 h30 1 30 207 #[.val (.int p0), .val (.int p1), .val (.int p2), .val (.ref a1), .unset] [(.int (3 : Int32)), (.int p2), (.int ([65, 91, 95, 96, 97, 123, 192, 215, 216, 247, 248, 768, 880, 894, 895, 8192, 8204, 8206, 8304, 8592, 11264, 12272, 12289, 55296, 63744, 64976, 65008, 65534, 65536, 983040].getD k 0))] := own_iconst w at_206 rfl
  replace w : own_W K b0 Z n0 h30 1 30 208 #[.val (.int p0), .val (.int p1), .val (.int p2), .val (.ref a1), .unset] [(.int (p2 &&& (3 : Int32))), (.int ([65, 91, 95, 96, 97, 123, 192, 215, 216, 247, 248, 768, 880, 894, 895, 8192, 8204, 8206, 8304, 8592, 11264, 12272, 12289, 55296, 63744, 64976, 65008, 65534, 65536, 983040].getD k 0))] := own_iand w at_207
  replace w : own_W K b0 Z n0 h30 1 30 209 #[.val (.int p0), .val (.int p1), .val (.int p2), .val (.ref a1), .unset] [(.int (2 : Int32)), (.int (p2 &&& (3 : Int32))), (.int ([65, 91, 95, 96, 97, 123, 192, 215, 216, 247, 248, 768, 880, 894, 895, 8192, 8204, 8206, 8304, 8592, 11264, 12272, 12289, 55296, 63744, 64976, 65008, 65534, 65536, 983040].getD k 0))] := own_iconst w at_208 rfl
  replace w : own_W K b0 Z n0 h30 1 30 210 #[.val (.int p0), .val (.int p1), .val (.int p2), .val (.ref a1), .unset] [(.int ((p2 &&& (3 : Int32)) - (2 : Int32))), (.int ([65, 91, 95, 96, 97, 123, 192, 215, 216, 247, 248, 768, 880, 894, 895, 8192, 8204, 8206, 8304, 8592, 11264, 12272, 12289, 55296, 63744, 64976, 65008, 65534, 65536, 983040].getD k 0))] := own_isub w at_209
  replace w : own_W K b0 Z n0 h30 1 30 211 #[.val (.int p0), .val (.int p1), .val (.int p2), .val (.ref a1), .unset] [(.int (([65, 91, 95, 96, 97, 123, 192, 215, 216, 247, 248, 768, 880, 894, 895, 8192, 8204, 8206, 8304, 8592, 11264, 12272, 12289, 55296, 63744, 64976, 65008, 65534, 65536, 983040].getD k 0) + ((p2 &&& (3 : Int32)) - (2 : Int32))))] := own_iadd w at_210
  obtain ⟨c, ec⟩ : ∃ z : Int32, z = (([65, 91, 95, 96, 97, 123, 192, 215, 216, 247, 248, 768, 880, 894, 895, 8192, 8204, 8206, 8304, 8592, 11264, 12272, 12289, 55296, 63744, 64976, 65008, 65534, 65536, 983040].getD k 0) + ((p2 &&& (3 : Int32)) - (2 : Int32))) := ⟨_, rfl⟩
  rw [← ec] at w
  replace w : own_W K b0 Z n0 h30 1 30 213 #[.val (.int p0), .val (.int p1), .val (.int p2), .val (.ref a1), .val (.int c)] [] := own_istore w at_211 rfl
  replace w : own_W K b0 Z n0 h30 1 30 214 #[.val (.int p0), .val (.int p1), .val (.int p2), .val (.ref a1), .val (.int c)] [(.int p0)] := own_iloadN w at_213 rfl
  obtain ⟨_, _, ⟨rfl, rfl⟩, w⟩ := own_callS (By := b1) [(.int p0)] w rfl at_214 (hw _ (List.mem_of_getElem? (i := 9) rfl)) (hw _ (List.mem_of_getElem? (i := 10) rfl)) (hw _ (List.mem_of_getElem? (i := 11) rfl)) (hw _ (List.mem_of_getElem? (i := 12) rfl)) (rm1 hw p0 hn) (by decide) pd_1 rfl rfl (by decide) (Nat.le_of_ble_eq_true rfl) (by decide) (by decide)
  replace w : own_W K b0 Z n0 h30 1 30 217 #[.val (.int p0), .val (.int p1), .val (.int p2), .val (.ref a1), .val (.int c)] [(.int (g1_0 p0.toInt))] := w
  replace w : own_W K b0 Z n0 h30 1 30 218 #[.val (.int p0), .val (.int p1), .val (.int p2), .val (.ref a1), .val (.int c)] [(.int p0), (.int (g1_0 p0.toInt))] := own_iloadN w at_217 rfl
  obtain ⟨_, _, ⟨rfl, rfl⟩, w⟩ := own_callS (By := b2) [(.int p0)] w rfl at_218 (hw _ (List.mem_of_getElem? (i := 16) rfl)) (hw _ (List.mem_of_getElem? (i := 17) rfl)) (hw _ (List.mem_of_getElem? (i := 18) rfl)) (hw _ (List.mem_of_getElem? (i := 19) rfl)) (rm2 hw p0 hn) (by decide) pd_2 rfl rfl (by decide) (Nat.le_of_ble_eq_true rfl) (by decide) (by decide)
  replace w : own_W K b0 Z n0 h30 1 30 221 #[.val (.int p0), .val (.int p1), .val (.int p2), .val (.ref a1), .val (.int c)] [(.int (g2_0 p0.toInt)), (.int (g1_0 p0.toInt))] := w
  replace w : own_W K b0 Z n0 h30 1 30 224 #[.val (.int p0), .val (.int p1), .val (.int p2), .val (.ref a1), .val (.int c)] [] := own_icmpN (a := (g1_0 p0.toInt).toInt) (b := (g2_0 p0.toInt).toInt) w at_221 rfl rfl (congrArg Int32.toInt (own_law _))
  replace w : own_W K b0 Z n0 h30 1 30 226 #[.val (.int p0), .val (.int p1), .val (.int p2), .val (.ref a1), .val (.int c)] [(.int c)] := own_iload w at_224 rfl
  obtain ⟨_, _, ⟨rfl, rfl⟩, w⟩ := own_callS (By := b1) [(.int c)] w rfl at_226 (hw _ (List.mem_of_getElem? (i := 9) rfl)) (hw _ (List.mem_of_getElem? (i := 10) rfl)) (hw _ (List.mem_of_getElem? (i := 11) rfl)) (hw _ (List.mem_of_getElem? (i := 12) rfl)) (rm1 hw c hn) (by decide) pd_1 rfl rfl (by decide) (Nat.le_of_ble_eq_true rfl) (by decide) (by decide)
  replace w : own_W K b0 Z n0 h30 1 30 229 #[.val (.int p0), .val (.int p1), .val (.int p2), .val (.ref a1), .val (.int c)] [(.int (g1_0 c.toInt))] := w
  replace w : own_W K b0 Z n0 h30 1 30 231 #[.val (.int p0), .val (.int p1), .val (.int p2), .val (.ref a1), .val (.int c)] [(.int c), (.int (g1_0 c.toInt))] := own_iload w at_229 rfl
  obtain ⟨_, _, ⟨rfl, rfl⟩, w⟩ := own_callS (By := b2) [(.int c)] w rfl at_231 (hw _ (List.mem_of_getElem? (i := 16) rfl)) (hw _ (List.mem_of_getElem? (i := 17) rfl)) (hw _ (List.mem_of_getElem? (i := 18) rfl)) (hw _ (List.mem_of_getElem? (i := 19) rfl)) (rm2 hw c hn) (by decide) pd_2 rfl rfl (by decide) (Nat.le_of_ble_eq_true rfl) (by decide) (by decide)
  replace w : own_W K b0 Z n0 h30 1 30 234 #[.val (.int p0), .val (.int p1), .val (.int p2), .val (.ref a1), .val (.int c)] [(.int (g2_0 c.toInt)), (.int (g1_0 c.toInt))] := w
  replace w : own_W K b0 Z n0 h30 1 30 237 #[.val (.int p0), .val (.int p1), .val (.int p2), .val (.ref a1), .val (.int c)] [] := own_icmpN (a := (g1_0 c.toInt).toInt) (b := (g2_0 c.toInt).toInt) w at_234 rfl rfl (congrArg Int32.toInt (own_law _))
  replace w : own_W K b0 Z n0 h30 1 30 238 #[.val (.int p0), .val (.int p1), .val (.int p2), .val (.ref a1), .val (.int c)] [(.int (1 : Int32))] := own_iconst w at_237 rfl
  replace w : own_W K b0 Z n0 h30 1 30 242 #[.val (.int p0), .val (.int p1), .val (.int p2), .val (.ref a1), .val (.int c)] [(.int (1 : Int32))] := own_goto w at_238 (by decide) (by decide)
  exact own_retZ w at_242 rfl (Or.inl rfl) rfl (by decide) (by decide)
theorem rm0 {Z : State} {n0 : Nat} {h : Heap} {a0 : Array Value} (hw : ∀ d ∈ tables_1, d.before a0 Z = true) (p0 : Int32) (p1 : Int32) (p2 : Int32) (hn : n0 ≤ h.size) : ∀ l, own_M l Z n0 b0 #[(.int p0), (.int p1), (.int p2)] h (fun v _ => v = some (.int 1)) :=
  fun l => own_enter hn pn_0 (ef_0 p0 p1 p2) (fun K w => own_law0 hw p0 p1 p2 w)
set_option maxRecDepth 65536 in
set_option maxHeartbeats 40000000 in
theorem comes_1 {Post : Tables → Env → Array Value → State → Outcome → State → Prop} (hpost : ∀ tb e args s v u, (limb_1_1.after args s (.returned v) u = true ∧ limb_1_2.after args s (.returned v) u = true ∧ True) → FrameEnd s (.returned v) u (Jvm.fieldLocs frame_1_writes args s ++ Jvm.arrayLocs frame_1_arrays args s ++ Jvm.staticLocs frame_1_statics s) 16 128 → Post tb e args s (.returned v) u) :
    ArmFor flags0 classFile x code maxLocals ret World_1 tables_1 room_1 Calls_1 rest_1 Pre_1 Post := by
  intro l hfl _ _ p e ha hc hk s m args below hf hA hF happ hP
  obtain ⟨hcalls, hrest, hpre⟩ := hP
  obtain ⟨-, -, -, hnamed, -, -, -, hat⟩ := (Spec.applies_iff hf).mp happ
  obtain ⟨hg, hn⟩ := and_e (Cond.before_iff.mp (show (Jvm.Cond.and given_1 narrow_1).before args s = true from hpre))
  obtain ⟨gc, t0⟩ := and_e hg
  obtain ⟨k0, t1⟩ := and_e t0
  obtain ⟨k1, t2⟩ := and_e t1
  have k2 := t2
  obtain ⟨w0, w1, w2, rfl⟩ : ∃ w0 w1 w2 : Value, args = #[w0, w1, w2] := by
    have hs : args.size = 3 := by simpa [Cond.value, given_1] using gc
    obtain ⟨L⟩ := args
    match L, hs with
    | [w0, w1, w2], _ => exact ⟨w0, w1, w2, rfl⟩
  have hw := fun d (hd : d ∈ tables_1) => atoms_spec (ws := Jvm.Cond.code x code maxLocals ret :: tables_1) hat d (List.mem_cons_of_mem _ hd)
  obtain ⟨i0, ei0⟩ := is_v k0
  obtain rfl : w0 = (.int i0) := Option.some.inj ei0
  obtain ⟨i1, ei1⟩ := is_v k1
  obtain rfl : w1 = (.int i1) := Option.some.inj ei1
  obtain ⟨i2, ei2⟩ := is_v k2
  obtain rfl : w2 = (.int i2) := Option.some.inj ei2
  obtain ⟨n, o, h1, h2, h3, _, L, rfl, ⟨rfl, N, -⟩, hq⟩ := rm0 (Z := s) (n0 := s.heap.size) (h := s.heap) hw i0 i1 i2 (Nat.le_refl _) l tables_1 p e ha hc hk s m _ below hf ((Spec.applies_iff_loose hf).mp happ).1 ⟨rfl, State.Warmed39.refl s, rfl⟩ trivial
  refine ⟨n, _, h1, h2, h3, hpost _ _ _ _ _ _ ⟨Cond.after_iff.mpr rfl, Cond.after_iff.mpr (eq_i res_at (Term.int_eval (1)) rfl), trivial⟩ ⟨hq.1, hq.2.1, (hq.2.2.sift fun y hy => Or.inr (N y hy)).mono (by decide) (by decide)⟩⟩
theorem main_1_1 : Claimed_1_1 := comes_1 fun _ _ _ _ _ _ h hF => ⟨h.1, hF⟩
theorem main_1_2 : Claimed_1_2 := comes_1 fun _ _ _ _ _ _ h hF => ⟨h.2.1, hF⟩
end Jvm.Pilot.@@N@@
namespace Jvm.Pilot.@@N@@
open Jvm Jvm.ClassFile Sem Op Lib Jvm.Free Jvm.Stand Jvm.Pilot.@@N@@.Jvm.D
/-! MADE BY PROGRAM (witnessworld.py) out of the Statement's table words and the real class files: 9 classes; the members and pool entries that the words name. The judged class is class 1, her method 3. -/
namespace start1
open Jvm.ClassFile
def u (s : String) : CpInfo := .utf8 (stringToUtf16 s)
/-- a pool by its gaps: so many unusable entries, then the entry; so many at the end -/
def gap : Nat → List CpInfo → List CpInfo
  | 0, r => r
  | n + 1, r => .unusable :: gap n r
def poolList (es : List (Nat × CpInfo)) (last : Nat) : List CpInfo := es.foldr (fun e r => gap e.1 (e.2 :: r)) (gap last [])
def pool (es : List (Nat × CpInfo)) (last : Nat) : Array CpInfo := ⟨poolList es last⟩
def fileOf (pool : Array CpInfo) (this : Nat) (attrs : Array Attribute := #[]) (ms : Array MethodInfo := #[]) (fl : Nat := 33) (sup : Nat := 0) (ifs : Array Nat := #[]) (fds : Array FieldInfo := #[]) : ClassFile where
  minorVersion := 0
  majorVersion := 65
  constantPool := pool
  accessFlags := fl
  thisClass := this
  superClass := sup
  interfaces := ifs
  fields := fds
  methods := ms
  attributes := attrs
def plain (name : String) (sup : Option ClassId) : Class where
  name := name
  kind := .ordinary
  loader := none
  accessFlags := 33
  super := sup
  interfaces := #[]
  cf := none
  fields := #[]
  methods := #[]
  instanceTypes := #[]
  staticTypes := #[]
  resolved := #[]
  callSites := []
  init := .initialized
  statics := none
  mirror := none

def pool0 : Array CpInfo := pool [(5, u "<init>"), (0, u "()V"), (1, .class_ 10), (1, u "java/lang/Object")] 113

def k0m0 : Method := { name := "<init>", desc := "()V", sig := { parameters := [], returnType := none }, accessFlags := 1, code := none }
/-- java/lang/Object -/
def k0 : Class := { plain "java/lang/Object" none with
  accessFlags := 33
  interfaces := #[]
  cf := some (fileOf pool0 8 #[] #[{ accessFlags := 1, nameIndex := 5, descriptorIndex := 6, attributes := #[] }] 33 0 #[] #[])
  fields := #[]
  methods := #[k0m0]
  instanceTypes := #[]
  staticTypes := #[]
  resolved := Array.replicate 124 none
  statics := none }

def pool1 : Array CpInfo := pool [(2, .class_ 4), (1, u "java/lang/Object"), (0, u "<init>"), (0, u "()V"), (0, .integer 983039), (0, .methodref 9 10), (0, .class_ 11), (0, .nameAndType 12 13), (0, u "dev/stepflow/xdm/XmlCharsIsNameStartPinLaw"), (0, u "inr"), (0, u "(III)Z"), (0, .integer 55296), (0, .integer 63743), (0, .integer 64976), (0, .integer 65007), (0, .integer 65534), (0, .integer 65535), (0, .integer 63744), (0, .integer 65008), (0, .integer 65536), (0, .integer 983040), (0, .integer 2147483647), (0, .methodref 26 27), (0, .class_ 28), (0, .nameAndType 29 30), (0, u "dev/stepflow/xdm/XmlChars"), (0, u "isNameStart"), (0, u "(I)Z"), (0, .methodref 9 32), (0, .nameAndType 33 30), (0, u "ref"), (3, u "law")] 4

def k1m0 : Method := { name := "<init>", desc := "()V", sig := { parameters := [], returnType := none }, accessFlags := 2, code := none }
def k1c1 : Code := { maxStack := 2, maxLocals := 3, code := method_2_code, exceptionTable := #[], attributes := #[] }
def k1m1 : Method := { name := "inr", desc := "(III)Z", sig := { parameters := [.int, .int, .int], returnType := some .boolean }, accessFlags := 10, code := some k1c1 }
def k1c2 : Code := { maxStack := 3, maxLocals := 1, code := method_3_code, exceptionTable := #[], attributes := #[] }
def k1m2 : Method := { name := "ref", desc := "(I)Z", sig := { parameters := [.int], returnType := some .boolean }, accessFlags := 10, code := some k1c2 }
def k1c3 : Code := { maxStack := 4, maxLocals := 5, code := code, exceptionTable := #[], attributes := #[] }
def k1m3 : Method := { name := "law", desc := "(III)Z", sig := { parameters := [.int, .int, .int], returnType := some .boolean }, accessFlags := 9, code := some k1c3 }
/-- dev/stepflow/xdm/XmlCharsIsNameStartPinLaw -/
def k1 : Class := { plain "dev/stepflow/xdm/XmlCharsIsNameStartPinLaw" (some 0) with
  accessFlags := 49
  interfaces := #[]
  cf := some (fileOf pool1 9 #[] #[{ accessFlags := 2, nameIndex := 5, descriptorIndex := 6, attributes := #[] }, { accessFlags := 10, nameIndex := 12, descriptorIndex := 13, attributes := #[] }, { accessFlags := 10, nameIndex := 33, descriptorIndex := 30, attributes := #[] }, { accessFlags := 9, nameIndex := 37, descriptorIndex := 13, attributes := #[] }] 49 2 #[] #[])
  fields := #[]
  methods := #[k1m0, k1m1, k1m2, k1m3]
  instanceTypes := #[]
  staticTypes := #[]
  resolved := Array.replicate 42 none
  statics := none }

def pool2 : Array CpInfo := pool [(2, .class_ 4), (1, u "java/lang/Object"), (0, u "<init>"), (0, u "()V"), (0, .integer 55295), (0, .integer 63744), (0, .integer 64975), (0, .integer 65008), (0, .integer 65533), (0, .integer 65536), (0, .integer 983039), (1, .class_ 17), (1, u "dev/stepflow/xdm/XmlChars"), (0, u "isNameStart"), (0, u "(I)Z")] 70

def k2m0 : Method := { name := "<init>", desc := "()V", sig := { parameters := [], returnType := none }, accessFlags := 2, code := none }
def k2c1 : Code := { maxStack := 2, maxLocals := 1, code := prog_179_method_2_code, exceptionTable := #[], attributes := #[] }
def k2m1 : Method := { name := "isNameStart", desc := "(I)Z", sig := { parameters := [.int], returnType := some .boolean }, accessFlags := 9, code := some k2c1 }
/-- dev/stepflow/xdm/XmlChars -/
def k2 : Class := { plain "dev/stepflow/xdm/XmlChars" (some 0) with
  accessFlags := 49
  interfaces := #[]
  cf := some (fileOf pool2 15 #[] #[{ accessFlags := 2, nameIndex := 5, descriptorIndex := 6, attributes := #[] }, { accessFlags := 9, nameIndex := 18, descriptorIndex := 19, attributes := #[] }] 49 2 #[] #[])
  fields := #[]
  methods := #[k2m0, k2m1]
  instanceTypes := #[]
  staticTypes := #[]
  resolved := Array.replicate 90 none
  statics := none }

def pool3 : Array CpInfo := pool [(1, u "java/lang/Cloneable"), (0, .class_ 1), (0, u "java/lang/Object"), (0, .class_ 3)] 3

/-- java/lang/Cloneable -/
def k3 : Class := { plain "java/lang/Cloneable" (some 0) with
  accessFlags := 1537
  interfaces := #[]
  cf := some (fileOf pool3 2 #[] #[] 1537 4 #[] #[])
  fields := #[]
  methods := #[]
  instanceTypes := #[]
  staticTypes := #[]
  resolved := Array.replicate 8 none
  statics := none }

def pool4 : Array CpInfo := pool [(1, u "java/io/Serializable"), (0, .class_ 1), (0, u "java/lang/Object"), (0, .class_ 3)] 3

/-- java/io/Serializable -/
def k4 : Class := { plain "java/io/Serializable" (some 0) with
  accessFlags := 1537
  interfaces := #[]
  cf := some (fileOf pool4 2 #[] #[] 1537 4 #[] #[])
  fields := #[]
  methods := #[]
  instanceTypes := #[]
  staticTypes := #[]
  resolved := Array.replicate 8 none
  statics := none }

/-- the primitive byte -/
def k5 : Class := { plain "byte" none with kind := .primitive 'B', accessFlags := 0x411 }
/-- [B -/
def k6 : Class := { plain "[B" (some 0) with kind := .array 5 .byte, interfaces := #[3, 4], accessFlags := 1041 }

/-- the primitive int -/
def k7 : Class := { plain "int" none with kind := .primitive 'I', accessFlags := 0x411 }
/-- [I -/
def k8 : Class := { plain "[I" (some 0) with kind := .array 7 .int, interfaces := #[3, 4], accessFlags := 1041 }

def heap : Heap := #[]
def classes : Array Class := #[k0, k1, k2, k3, k4, k5, k6, k7, k8]
def interned : List (Array UInt16 × Addr) := []
def slotsUsed : Nat := 0
def theMethod : MethodId := ⟨1, 3⟩
def args0 : Array Value := #[.int 9, .int 5, .int 1]
def aboutOver (below : List Frame) : State where
  vm := { classes := classes, interned := interned.toArray }
  heap := heap
  slotsUsed := slotsUsed
  threads := #[{ frames := .invoking theMethod args0 :: below }]
def below0 : List Frame := [.native { method := ⟨0, 0⟩, args := #[] }]
def about1 : State := aboutOver below0
def p0 : Program := .bare "" "" ""
def e0 : Env := launch0.env 0 0 0
theorem w_frames : about1.frames = Frame.invoking theMethod args0 :: below0 := rfl
set_option maxRecDepth 65536 in
theorem w_args : argsFit about1.vm theMethod args0 = true := by decide +kernel
set_option maxRecDepth 65536 in
theorem w_heap : heapFits about1 = true := by decide +kernel
set_option maxRecDepth 65536 in
theorem w_runnable : about1.curStatus? = some .runnable := by decide +kernel
set_option maxRecDepth 65536 in
theorem w_alone : about1.alone = true := by decide +kernel
set_option maxRecDepth 65536 in
theorem w_named : about1.methodNamed? x = some theMethod := by decide +kernel
set_option maxRecDepth 65536 in
theorem w_hears : about1.hears theMethod below0 = true := by decide +kernel
set_option maxRecDepth 65536 in
theorem w_ripe : about1.ripe theMethod args0 below0 = true := by decide +kernel
theorem w_running : about1.status = .running := rfl
set_option maxRecDepth 65536 in
theorem w_room : about1.hasRoom e0.platform room_1 = true :=
  launch0.hasRoom_least _ room_1 (by decide +kernel) (by decide +kernel) (by decide +kernel) (by decide +kernel) (by decide +kernel) (by decide +kernel)
theorem allAtoms_all (ts : List Jvm.Cond) (a : Array Jvm.Value) (st : Jvm.State) : (allAtoms ts).before a st = ts.all (fun c => c.before a st) := by
  induction ts with
  | nil => rfl
  | cons c t ih =>
    show (Jvm.Cond.and c (allAtoms t)).before a st = _
    rw [Jvm.Cond.before_and, ih, List.all_cons]
def words1 : List Jvm.Cond := Jvm.Cond.code x code maxLocals ret :: tables_1
/-- a 'code' word, met by the world's own term for the bytes: nothing is compared byte by byte -/
theorem code_word {y : MethodName} {bytes : ByteArray} {mx : Nat} {rt : Option FieldType} {a : Array Value} {s : State} {m : MethodId} {meth : Method} {c : Code} (h1 : s.methodNamed? y = some m) (h2 : s.vm.method? m = some meth) (h3 : meth.code = some c) (h4 : c.code = bytes)
    (h5 : (c.maxLocals == mx && c.exceptionTable.isEmpty && decide (c.maxStack ≤ mostOperands) && decide (meth.sig.returnType = rt) && !meth.locks && decide (parseMethodDescriptor y.desc = some meth.sig)) = true) : (Jvm.Cond.code y bytes mx rt).before a s = true := by
  simp only [Bool.and_eq_true, beq_iff_eq, Bool.not_eq_true', decide_eq_true_eq] at h5
  obtain ⟨⟨⟨⟨⟨g1, g2⟩, g3⟩, g4⟩, g5⟩, g6⟩ := h5
  simp [Cond.before, Cond.holds, Cond.value, h1, h2, h3, h4, g1, g2, g3, g4, g5, g6]
def isCode : Jvm.Cond → Bool
  | .code _ _ _ _ => true
  | _ => false
theorem all_split {L : List Jvm.Cond} {P : Jvm.Cond → Bool} (h1 : L.all (fun c => isCode c || P c) = true) (h2 : ∀ c ∈ L.filter isCode, P c = true) : L.all P = true := by
  refine List.all_eq_true.mpr fun c hc => ?_
  have h := List.all_eq_true.mp h1 c hc
  rcases Bool.eq_false_or_eq_true (isCode c) with hi | hi
  · exact h2 c (List.mem_filter.mpr ⟨hc, hi⟩)
  · simpa [hi] using h
set_option maxRecDepth 65536 in
theorem w_c0 : (Jvm.Cond.code x code maxLocals ret).before args0 about1 = true := code_word (m := ⟨1, 3⟩) (meth := k1m3) (c := k1c3) (by decide +kernel) rfl rfl rfl (by decide +kernel)
set_option maxRecDepth 65536 in
theorem w_c1 : (Jvm.Cond.code ({ cls := "dev/stepflow/xdm/XmlChars", name := "isNameStart", desc := "(I)Z" } : Jvm.MethodName) prog_179_method_2_code (1 : Nat) (Option.some Jvm.ClassFile.FieldType.boolean)).before args0 about1 = true := code_word (m := ⟨2, 1⟩) (meth := k2m1) (c := k2c1) (by decide +kernel) rfl rfl rfl (by decide +kernel)
set_option maxRecDepth 65536 in
theorem w_c2 : (Jvm.Cond.code ({ cls := "dev/stepflow/xdm/XmlCharsIsNameStartPinLaw", name := "ref", desc := "(I)Z" } : Jvm.MethodName) method_3_code (1 : Nat) (Option.some Jvm.ClassFile.FieldType.boolean)).before args0 about1 = true := code_word (m := ⟨1, 2⟩) (meth := k1m2) (c := k1c2) (by decide +kernel) rfl rfl rfl (by decide +kernel)
set_option maxRecDepth 65536 in
theorem w_c3 : (Jvm.Cond.code ({ cls := "dev/stepflow/xdm/XmlCharsIsNameStartPinLaw", name := "inr", desc := "(III)Z" } : Jvm.MethodName) method_2_code (3 : Nat) (Option.some Jvm.ClassFile.FieldType.boolean)).before args0 about1 = true := code_word (m := ⟨1, 1⟩) (meth := k1m1) (c := k1c1) (by decide +kernel) rfl rfl rfl (by decide +kernel)
def codes1 : List Jvm.Cond := [Jvm.Cond.code x code maxLocals ret, Jvm.Cond.code ({ cls := "dev/stepflow/xdm/XmlChars", name := "isNameStart", desc := "(I)Z" } : Jvm.MethodName) prog_179_method_2_code (1 : Nat) (Option.some Jvm.ClassFile.FieldType.boolean), Jvm.Cond.code ({ cls := "dev/stepflow/xdm/XmlCharsIsNameStartPinLaw", name := "ref", desc := "(I)Z" } : Jvm.MethodName) method_3_code (1 : Nat) (Option.some Jvm.ClassFile.FieldType.boolean), Jvm.Cond.code ({ cls := "dev/stepflow/xdm/XmlCharsIsNameStartPinLaw", name := "inr", desc := "(III)Z" } : Jvm.MethodName) method_2_code (3 : Nat) (Option.some Jvm.ClassFile.FieldType.boolean)]
set_option maxRecDepth 65536 in
theorem codes_eq : words1.filter isCode = codes1 := rfl
theorem w_codes : ∀ c ∈ words1.filter isCode, c.before args0 about1 = true := by
  rw [codes_eq]
  intro c hc
  simp only [codes1, List.mem_cons, List.not_mem_nil, or_false] at hc
  rcases hc with rfl | rfl | rfl | rfl
  · exact w_c0
  · exact w_c1
  · exact w_c2
  · exact w_c3
set_option maxRecDepth 65536 in
theorem w_t1 : (words1.take 24).all (fun c => isCode c || c.before args0 about1) = true := by decide +kernel
set_option maxRecDepth 65536 in
theorem w_t2 : (words1.drop 24).all (fun c => isCode c || c.before args0 about1) = true := by decide +kernel
theorem w_tables : (allAtoms (Jvm.Cond.code x code maxLocals ret :: tables_1)).before args0 about1 = true := by
  rw [allAtoms_all]
  show words1.all (fun c => c.before args0 about1) = true
  refine all_split ?_ w_codes
  rw [← List.take_append_drop 24 words1, List.all_append, w_t1, w_t2]
  rfl
set_option maxRecDepth 65536 in
theorem w_case : (Jvm.Cond.and given_1 narrow_1).before args0 about1 = true := by decide +kernel
theorem w_applies : (headSpec (Jvm.Cond.code x code maxLocals ret :: tables_1) room_1).applies x e0.platform about1 = true :=
  (Spec.applies_iff w_frames).mpr ⟨w_running, w_runnable, w_alone, w_named, w_hears, w_ripe, w_room, w_tables⟩
theorem atStart : AtStart classFile x code maxLocals ret World_1 tables_1 room_1 Calls_1 rest_1 Pre_1 launch0 p0 e0 about1 theMethod args0 below0 :=
  ⟨lists_1, trivial, launch0.admits_env _ _ _, launch0.least_env, fairChoices_fair.cas, fairChoices_fair.clock, w_frames, w_args, w_heap, w_applies, trivial, trivial, w_case⟩
end start1
theorem witness_1 : WitnessClaimed_1 := ⟨start1.p0, start1.e0, start1.about1, start1.theMethod, start1.args0, start1.below0, start1.atStart⟩
end Jvm.Pilot.@@N@@
