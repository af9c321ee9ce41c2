import JvmDerived
import JvmDerived.Pilot.@@N@@Statement
import JvmDerived.Pilot.@@N@@Code
set_option linter.unusedVariables false
set_option linter.unusedSimpArgs false
@@BLOCK:NumsL.lean.txt@@
@@BLOCK:Masks.lean.txt@@
namespace Jvm.RoadKit
open Sem ClassFile Op Lib Jvm.Stand Jvm.Free Jvm.LawKit
section New
variable {p : Program} {l : Launch} {e : Env} {R : Room} {s : State} {m : MethodId} {args : Array Value} {below : List Frame} {meth : Method} {c : Code} {T : State} {locs : List Loc} {cells slots : Nat}
theorem retI (X : Stand p l e R s m args below meth c T locs cells slots) (hx : p.tables.exec = Jvm.exec) {pc : Nat} {Ls : Array Slot} {z : Int32} {rest : List Value} (hret : meth.sig.returnType = some .int) (hd : decode c.code pc = .ok (.ireturn, 1)) {fs : List Frame}
    (hl : ∀ (f : JFrame) (acts : List Action), f.method = m → f.locked = none → f.entered = [] → (doReturn e (T.setTop f) acts (some (.int z))).1 = T.setFrames fs) : Steps p.tables e below (T.setTop (mkF m pc Ls (.int z :: rest))) (T.setFrames fs) := by
  have hm' : T.vm.method? m = some meth := X.method'
  have hn : narrow .int (.int z) = .int z := rfl
  show Steps p.tables e below (T.setTop { method := m, pc := pc, locals := Ls, stack := _ :: rest, locked := none }) _
  jvm_step X.here [X.here.top, hx, hd, hm', hret, hn]
  first | (intro acts; rw [hl _ acts rfl rfl rfl]) | rw [hl _ _ rfl rfl rfl]
  exact Steps.refl _
end New
end Jvm.RoadKit
namespace Jvm.Pilot.@@N@@
open Jvm Jvm.ClassFile Sem Op Lib Jvm.Free Jvm.Stand Jvm.LawKit Jvm.RoadKit Bundle Jvm.Pilot.@@N@@.Jvm.D
-- a layer of my own over the library's laws: a point of a walk (own_W), its end (own_G), a body's contract (own_M)
abbrev OwnK : Type := Program × Launch × Env × State × MethodId × Array Value × List Frame × Method × Code × State
abbrev OwnB : Type := MethodName × ByteArray × Nat × Option FieldType × Room
abbrev OwnB.y (B : OwnB) : MethodName := B.1
abbrev OwnB.bytes (B : OwnB) : ByteArray := B.2.1
abbrev OwnB.ml (B : OwnB) : Nat := B.2.2.1
abbrev OwnB.ret (B : OwnB) : Option FieldType := B.2.2.2.1
abbrev OwnB.rm (B : OwnB) : Room := B.2.2.2.2
def own_W (K : OwnK) (B : OwnB) (Z : State) (n0 : Nat) (h : Heap) (ck cs pc : Nat) (L : Array Slot) (S : List Value) : Prop :=
  match K with
  | (p, l, e, s, m, args, below, meth, c, start) =>
    p.tables.exec = Jvm.exec ∧ Z.Warmed39 s.vm ∧ s.vm.findClass B.y.cls = some m.cls ∧ meth.name = B.y.name ∧ c.code = B.bytes ∧ c.maxLocals = B.ml ∧ meth.sig.returnType = B.ret ∧ meth.locks = false ∧ n0 ≤ h.size ∧
      ∃ (T : State) (locs : List Loc), Stand p l e B.rm s m args below meth c T locs ck cs ∧ T.heap = h ∧ Fr n0 locs ∧
        ∀ tg, Steps p.tables e below (T.setTop (mkF m pc L S)) tg → Steps p.tables e below start tg
def own_G (K : OwnK) (n0 ck cs : Nat) (Q : Option Value → Heap → Prop) : Prop :=
  match K with
  | (p, _, e, s, _, _, below, _, _, start) =>
    ∃ s₂ o, Steps p.tables e below start s₂ ∧ s₂.status = .running ∧ Ended s₂ below o ∧
      ∃ v L, o = .returned v ∧ (Q v s₂.heap ∧ Fr n0 L ∧ n0 ≤ s₂.heap.size) ∧ FrameEnd s o s₂ L ck cs
def own_M (l : Launch) (Z : State) (n0 : Nat) (B : OwnB) (as : Array Value) (h : Heap) (Q : Option Value → Heap → Prop) : Prop :=
  ∀ ws : List Jvm.Cond, MetFree l B.y (head1 (Jvm.Cond.code B.y B.bytes B.ml B.ret :: ws) B.rm) (fun a U => a = as ∧ Z.Warmed39 U.vm ∧ U.heap = h) (fun _ _ _ _ _ => True)
    (fun _ U o U' => ∃ v L, o = .returned v ∧ (Q v U'.heap ∧ Fr n0 L ∧ n0 ≤ U'.heap.size) ∧ FrameEnd U o U' L B.rm.cells B.rm.slots)
theorem own_enter {l : Launch} {Z : State} {n0 : Nat} {B : OwnB} {as : Array Value} {h : Heap} {Q : Option Value → Heap → Prop} (hn0 : n0 ≤ h.size) (pn : plainName B.y.cls = true) {L0 : Array Slot} (ef : ∀ m, entryFrame m as B.ml = mkF m 0 L0 [])
    (body : ∀ K, own_W K B Z n0 h 0 0 0 L0 [] → own_G K n0 B.rm.cells B.rm.slots Q) : own_M l Z n0 B as h Q := by
  intro ws
  refine MetFree.of_bodySF (plainFor_of_name pn) hisR ?_
  intro p e s m args below meth c s₁ Bd hml0 hP hK
  obtain ⟨rfl, hZ, hh⟩ := hP
  exact body (p, l, e, s, m, args, below, meth, c, s₁.setTop (entryFrame m args B.ml)) ⟨Bd.exec, hZ, findClass_of_methodNamed Bd.named, (name_of_methodNamed Bd.named Bd.method).1, Bd.bytes, hml0, Bd.returns, Bd.notSynchronized, hn0, s₁, [], Stand.of_body Bd, by rw [← hh, Bd.state]; rfl, Fr.nil n0, fun t k => castTop (ef m) k⟩
section Own
variable {K : OwnK} {B : OwnB} {Z : State} {n0 : Nat} {h : Heap} {ck cs pc : Nat} {L : Array Slot} {S : List Value} {a0 : Array Value}
theorem own_step {pc' : Nat} {L' : Array Slot} {S' : List Value} (w : own_W K B Z n0 h ck cs pc L S)
    (st : ∀ {p : Program} {l : Launch} {e : Env} {s : State} {m : MethodId} {args : Array Value} {below : List Frame} {meth : Method} {c : Code} {T : State} {locs : List Loc}, Stand p l e B.rm s m args below meth c T locs ck cs → p.tables.exec = Jvm.exec → Z.Warmed39 s.vm → s.vm.findClass B.y.cls = some m.cls → c.code = B.bytes → T.heap = h →
      ∀ tg, Steps p.tables e below (T.setTop (mkF m pc' L' S')) tg → Steps p.tables e below (T.setTop (mkF m pc L S)) tg) : own_W K B Z n0 h ck cs pc' L' S' := by
  obtain ⟨p, l, e, s, m, args, below, meth, c, start⟩ := K
  obtain ⟨hx, hZ, hown, hnm, hby, hml, hret, hlk, hn, T, locs, X, eT, N, pre⟩ := w
  exact ⟨hx, hZ, hown, hnm, hby, hml, hret, hlk, hn, T, locs, X, eT, N, fun tg k => pre tg (st X hx hZ hown hby eT tg k)⟩
theorem own_cast {pc' : Nat} {L' : Array Slot} {S' : List Value} {h' : Heap} {ck' cs' : Nat} (w : own_W K B Z n0 h ck cs pc L S) (e1 : h = h') (e2 : ck = ck') (e3 : cs = cs') (e4 : pc = pc') (e5 : L = L') (e6 : S = S') : own_W K B Z n0 h' ck' cs' pc' L' S' := by
  subst e1 e2 e3 e4 e5 e6; exact w
theorem own_size (w : own_W K B Z n0 h ck cs pc L S) : n0 ≤ h.size := by
  obtain ⟨p, l, e, s, m, args, below, meth, c, start⟩ := K
  exact w.2.2.2.2.2.2.2.2.1
theorem own_iloadN (w : own_W K B Z n0 h ck cs pc L S) {k : Fin 4} {v : Int32} (hd : decode B.bytes pc = .ok (.iload_n k, 1)) (hl : L[k.val]? = some (.val (.int v))) : own_W K B Z n0 h ck cs (pc + 1) L (.int v :: S) :=
  own_step w fun X hx _ _ hby _ tg kt => XS.iloadN X.here hx rfl (hb hby hd) hl kt
theorem own_iload (w : own_W K B Z n0 h ck cs pc L S) {k : Nat} {v : Int32} (hd : decode B.bytes pc = .ok (.iload k, 2)) (hl : L[k]? = some (.val (.int v))) : own_W K B Z n0 h ck cs (pc + 2) L (.int v :: S) :=
  own_step w fun X hx _ _ hby _ tg kt => XS.iload X.here hx rfl (hb hby hd) hl kt
theorem own_lloadN (w : own_W K B Z n0 h ck cs pc L S) {k : Fin 4} {v : Int64} (hd : decode B.bytes pc = .ok (.lload_n k, 1)) (hl : L[k.val]? = some (.val (.long v))) : own_W K B Z n0 h ck cs (pc + 1) L (.long v :: S) :=
  own_step w fun X hx _ _ hby _ tg kt => XS.lloadN X.here hx rfl (hb hby hd) hl kt
theorem own_lload (w : own_W K B Z n0 h ck cs pc L S) {k : Nat} {v : Int64} (hd : decode B.bytes pc = .ok (.lload k, 2)) (hl : L[k]? = some (.val (.long v))) : own_W K B Z n0 h ck cs (pc + 2) L (.long v :: S) :=
  own_step w fun X hx _ _ hby _ tg kt => XS.lload X.here hx rfl (hb hby hd) hl kt
theorem own_aloadN (w : own_W K B Z n0 h ck cs pc L S) {k : Fin 4} {a : Addr} (hd : decode B.bytes pc = .ok (.aload_n k, 1)) (hl : L[k.val]? = some (.val (.ref a))) : own_W K B Z n0 h ck cs (pc + 1) L (.ref a :: S) :=
  own_step w fun X hx _ _ hby _ tg kt => XS.aloadN X.here hx rfl (hb hby hd) hl rfl kt
theorem own_aload (w : own_W K B Z n0 h ck cs pc L S) {k : Nat} {a : Addr} (hd : decode B.bytes pc = .ok (.aload k, 2)) (hl : L[k]? = some (.val (.ref a))) : own_W K B Z n0 h ck cs (pc + 2) L (.ref a :: S) :=
  own_step w fun X hx _ _ hby _ tg kt => XS.aload X.here hx rfl (hb hby hd) hl rfl kt
theorem own_iconst (w : own_W K B Z n0 h ck cs pc L S) {i : Int} {v : Int32} (hd : decode B.bytes pc = .ok (.iconst i, 1)) (hv : Int32.ofInt i = v) : own_W K B Z n0 h ck cs (pc + 1) L (.int v :: S) := by
  subst hv; exact own_step w fun X hx _ _ hby _ tg kt => XS.iconst X.here hx rfl (hb hby hd) kt
theorem own_bipush (w : own_W K B Z n0 h ck cs pc L S) {i : Int} {v : Int32} (hd : decode B.bytes pc = .ok (.bipush i, 2)) (hv : (Int8.ofInt i).toInt32 = v) : own_W K B Z n0 h ck cs (pc + 2) L (.int v :: S) := by
  subst hv; exact own_step w fun X hx _ _ hby _ tg kt => XS.bipush X.here hx rfl (hb hby hd) kt
theorem own_sipush (w : own_W K B Z n0 h ck cs pc L S) {i : Int} {v : Int32} (hd : decode B.bytes pc = .ok (.sipush i, 3)) (hv : (Int16.ofInt i).toInt32 = v) : own_W K B Z n0 h ck cs (pc + 3) L (.int v :: S) := by
  subst hv; exact own_step w fun X hx _ _ hby _ tg kt => XS.sipush X.here hx rfl (hb hby hd) kt
theorem own_lconst (w : own_W K B Z n0 h ck cs pc L S) {k : Fin 2} {v : Int64} (hd : decode B.bytes pc = .ok (.lconst k, 1)) (hv : Int64.ofNat k = v) : own_W K B Z n0 h ck cs (pc + 1) L (.long v :: S) := by
  subst hv; exact own_step w fun X hx _ _ hby _ tg kt => XS.lconst X.here hx rfl (hb hby hd) kt
theorem own_ldc (w : own_W K B Z n0 h ck cs pc L S) {i : Nat} {v : Int32} (hd : decode B.bytes pc = .ok (.ldc i, 2)) (wc : (Jvm.Cond.constant B.y.cls i v).before a0 Z = true) : own_W K B Z n0 h ck cs (pc + 2) L (.int v :: S) :=
  own_step w fun X hx hZ hown hby _ tg kt => X.ldcInt (g := mkF _ pc L S) hx hown (mv hZ wc) rfl (hb hby hd) tg kt
theorem own_ldc2 (w : own_W K B Z n0 h ck cs pc L S) {i : Nat} {v : Int64} (hd : decode B.bytes pc = .ok (.ldc2_w i, 3)) (wc : (Jvm.Cond.constantLong B.y.cls i v).before a0 Z = true) : own_W K B Z n0 h ck cs (pc + 3) L (.long v :: S) :=
  own_step w fun X hx hZ hown hby _ tg kt => X.ldc2Long (g := mkF _ pc L S) hx hown (mv hZ wc) rfl (hb hby hd) tg kt
theorem own_dup {x : Value} (w : own_W K B Z n0 h ck cs pc L (x :: S)) (hd : decode B.bytes pc = .ok (.dup, 1)) (hc : x.category = 1) : own_W K B Z n0 h ck cs (pc + 1) L (x :: x :: S) :=
  own_step w fun X hx _ _ hby _ tg kt => XS.dup X.here hx rfl (hb hby hd) rfl hc kt
theorem own_istoreN {x : Int32} {L' : Array Slot} (w : own_W K B Z n0 h ck cs pc L (.int x :: S)) {k : Fin 4} (hd : decode B.bytes pc = .ok (.istore_n k, 1)) (hl : storeLocals L k.val (.int x) = some L') : own_W K B Z n0 h ck cs (pc + 1) L' S :=
  own_step w fun X hx _ _ hby _ tg kt => XS.istoreN X.here hx rfl (hb hby hd) rfl hl kt
theorem own_istore {x : Int32} {L' : Array Slot} (w : own_W K B Z n0 h ck cs pc L (.int x :: S)) {k : Nat} (hd : decode B.bytes pc = .ok (.istore k, 2)) (hl : storeLocals L k (.int x) = some L') : own_W K B Z n0 h ck cs (pc + 2) L' S :=
  own_step w fun X hx _ _ hby _ tg kt => XS.istore X.here hx rfl (hb hby hd) rfl hl kt
theorem own_lstoreN {x : Int64} {L' : Array Slot} (w : own_W K B Z n0 h ck cs pc L (.long x :: S)) {k : Fin 4} (hd : decode B.bytes pc = .ok (.lstore_n k, 1)) (hl : storeLocals L k.val (.long x) = some L') : own_W K B Z n0 h ck cs (pc + 1) L' S :=
  own_step w fun X hx _ _ hby _ tg kt => XS.lstoreN X.here hx rfl (hb hby hd) rfl hl kt
theorem own_lstore {x : Int64} {L' : Array Slot} (w : own_W K B Z n0 h ck cs pc L (.long x :: S)) {k : Nat} (hd : decode B.bytes pc = .ok (.lstore k, 2)) (hl : storeLocals L k (.long x) = some L') : own_W K B Z n0 h ck cs (pc + 2) L' S :=
  own_step w fun X hx _ _ hby _ tg kt => XS.lstore X.here hx rfl (hb hby hd) rfl hl kt
theorem own_astoreN {a : Addr} {L' : Array Slot} (w : own_W K B Z n0 h ck cs pc L (.ref a :: S)) {k : Fin 4} (hd : decode B.bytes pc = .ok (.astore_n k, 1)) (hl : storeLocals L k.val (.ref a) = some L') : own_W K B Z n0 h ck cs (pc + 1) L' S :=
  own_step w fun X hx _ _ hby _ tg kt => XS.astoreN X.here hx rfl (hb hby hd) rfl rfl hl kt
theorem own_astore {a : Addr} {L' : Array Slot} (w : own_W K B Z n0 h ck cs pc L (.ref a :: S)) {k : Nat} (hd : decode B.bytes pc = .ok (.astore k, 2)) (hl : storeLocals L k (.ref a) = some L') : own_W K B Z n0 h ck cs (pc + 2) L' S :=
  own_step w fun X hx _ _ hby _ tg kt => XS.astore X.here hx rfl (hb hby hd) rfl rfl hl kt
theorem own_iinc {x v : Int32} {L' : Array Slot} (w : own_W K B Z n0 h ck cs pc L S) {k : Nat} {c : Int} (hd : decode B.bytes pc = .ok (.iinc k c, 3)) (hl : L[k]? = some (.val (.int x))) (hv : Int32.ofInt c = v) (hl' : storeLocals L k (.int (x + v)) = some L') : own_W K B Z n0 h ck cs (pc + 3) L' S := by
  subst hv; exact own_step w fun X hx _ _ hby _ tg kt => XS.iinc X.here hx rfl (hb hby hd) hl hl' kt
theorem own_goto (w : own_W K B Z n0 h ck cs pc L S) {o : Int} {pc' : Nat} (hd : decode B.bytes pc = .ok (.goto o, 3)) (ho : 0 ≤ (pc : Int) + o) (hp : ((pc : Int) + o).toNat = pc') : own_W K B Z n0 h ck cs pc' L S :=
  own_step w fun X hx _ _ hby _ tg kt => XS.goto X.here hx rfl (pc0 := pc) rfl (hb hby hd) ho hp kt
theorem own_iadd {x : Int32} {y : Int32} (w : own_W K B Z n0 h ck cs pc L (.int y :: .int x :: S)) (hd : decode B.bytes pc = .ok (.iadd, 1)) : own_W K B Z n0 h ck cs (pc + 1) L (.int (x + y) :: S) :=
  own_step w fun X hx _ _ hby _ tg kt => XS.iadd X.here hx rfl (hb hby hd) rfl kt
theorem own_isub {x : Int32} {y : Int32} (w : own_W K B Z n0 h ck cs pc L (.int y :: .int x :: S)) (hd : decode B.bytes pc = .ok (.isub, 1)) : own_W K B Z n0 h ck cs (pc + 1) L (.int (x - y) :: S) :=
  own_step w fun X hx _ _ hby _ tg kt => XS.isub X.here hx rfl (hb hby hd) rfl kt
theorem own_imul {x : Int32} {y : Int32} (w : own_W K B Z n0 h ck cs pc L (.int y :: .int x :: S)) (hd : decode B.bytes pc = .ok (.imul, 1)) : own_W K B Z n0 h ck cs (pc + 1) L (.int (x * y) :: S) :=
  own_step w fun X hx _ _ hby _ tg kt => XS.imul X.here hx rfl (hb hby hd) rfl kt
theorem own_iand {x : Int32} {y : Int32} (w : own_W K B Z n0 h ck cs pc L (.int y :: .int x :: S)) (hd : decode B.bytes pc = .ok (.iand, 1)) : own_W K B Z n0 h ck cs (pc + 1) L (.int (x &&& y) :: S) :=
  own_step w fun X hx _ _ hby _ tg kt => XS.iand X.here hx rfl (hb hby hd) rfl kt
theorem own_ior {x : Int32} {y : Int32} (w : own_W K B Z n0 h ck cs pc L (.int y :: .int x :: S)) (hd : decode B.bytes pc = .ok (.ior, 1)) : own_W K B Z n0 h ck cs (pc + 1) L (.int (x ||| y) :: S) :=
  own_step w fun X hx _ _ hby _ tg kt => XS.ior X.here hx rfl (hb hby hd) rfl kt
theorem own_ixor {x : Int32} {y : Int32} (w : own_W K B Z n0 h ck cs pc L (.int y :: .int x :: S)) (hd : decode B.bytes pc = .ok (.ixor, 1)) : own_W K B Z n0 h ck cs (pc + 1) L (.int (x ^^^ y) :: S) :=
  own_step w fun X hx _ _ hby _ tg kt => XS.ixor X.here hx rfl (hb hby hd) rfl kt
theorem own_ishl {x : Int32} {y : Int32} (w : own_W K B Z n0 h ck cs pc L (.int y :: .int x :: S)) (hd : decode B.bytes pc = .ok (.ishl, 1)) : own_W K B Z n0 h ck cs (pc + 1) L (.int (x <<< (y &&& 31)) :: S) :=
  own_step w fun X hx _ _ hby _ tg kt => XS.ishl X.here hx rfl (hb hby hd) rfl kt
theorem own_iushr {x : Int32} {y : Int32} (w : own_W K B Z n0 h ck cs pc L (.int y :: .int x :: S)) (hd : decode B.bytes pc = .ok (.iushr, 1)) : own_W K B Z n0 h ck cs (pc + 1) L (.int (XT.ushr x y) :: S) :=
  own_step w fun X hx _ _ hby _ tg kt => XS.iushr X.here hx rfl (hb hby hd) rfl kt
theorem own_irem {x : Int32} {y : Int32} (w : own_W K B Z n0 h ck cs pc L (.int y :: .int x :: S)) (hd : decode B.bytes pc = .ok (.irem, 1)) (hy : y ≠ 0) : own_W K B Z n0 h ck cs (pc + 1) L (.int (x % y) :: S) :=
  own_step w fun X hx _ _ hby _ tg kt => iremM X hx rfl (hb hby hd) rfl hy kt
theorem own_ladd {x : Int64} {y : Int64} (w : own_W K B Z n0 h ck cs pc L (.long y :: .long x :: S)) (hd : decode B.bytes pc = .ok (.ladd, 1)) : own_W K B Z n0 h ck cs (pc + 1) L (.long (x + y) :: S) :=
  own_step w fun X hx _ _ hby _ tg kt => XS.ladd X.here hx rfl (hb hby hd) rfl kt
theorem own_lsub {x : Int64} {y : Int64} (w : own_W K B Z n0 h ck cs pc L (.long y :: .long x :: S)) (hd : decode B.bytes pc = .ok (.lsub, 1)) : own_W K B Z n0 h ck cs (pc + 1) L (.long (x - y) :: S) :=
  own_step w fun X hx _ _ hby _ tg kt => XS.lsub X.here hx rfl (hb hby hd) rfl kt
theorem own_land {x : Int64} {y : Int64} (w : own_W K B Z n0 h ck cs pc L (.long y :: .long x :: S)) (hd : decode B.bytes pc = .ok (.land, 1)) : own_W K B Z n0 h ck cs (pc + 1) L (.long (x &&& y) :: S) :=
  own_step w fun X hx _ _ hby _ tg kt => XS.land X.here hx rfl (hb hby hd) rfl kt
theorem own_lrem {x : Int64} {y : Int64} (w : own_W K B Z n0 h ck cs pc L (.long y :: .long x :: S)) (hd : decode B.bytes pc = .ok (.lrem, 1)) (hy : y ≠ 0) : own_W K B Z n0 h ck cs (pc + 1) L (.long (x - (x / y) * y) :: S) :=
  own_step w fun X hx _ _ hby _ tg kt => XS.lrem X.here hx rfl (hb hby hd) rfl hy kt
theorem own_lushr {x : Int64} {y : Int32} (w : own_W K B Z n0 h ck cs pc L (.int y :: .long x :: S)) (hd : decode B.bytes pc = .ok (.lushr, 1)) : own_W K B Z n0 h ck cs (pc + 1) L (.long (XT.ushrL x y) :: S) :=
  own_step w fun X hx _ _ hby _ tg kt => XT.lushr X.here hx rfl (hb hby hd) rfl kt
theorem own_i2l {x : Int32} (w : own_W K B Z n0 h ck cs pc L (.int x :: S)) (hd : decode B.bytes pc = .ok (.i2l, 1)) : own_W K B Z n0 h ck cs (pc + 1) L (.long (x.toInt64) :: S) :=
  own_step w fun X hx _ _ hby _ tg kt => XS.i2l X.here hx rfl (hb hby hd) rfl kt
theorem own_l2i {x : Int64} (w : own_W K B Z n0 h ck cs pc L (.long x :: S)) (hd : decode B.bytes pc = .ok (.l2i, 1)) : own_W K B Z n0 h ck cs (pc + 1) L (.int (x.toInt32) :: S) :=
  own_step w fun X hx _ _ hby _ tg kt => XS.l2i X.here hx rfl (hb hby hd) rfl kt
theorem own_i2b {x : Int32} (w : own_W K B Z n0 h ck cs pc L (.int x :: S)) (hd : decode B.bytes pc = .ok (.i2b, 1)) : own_W K B Z n0 h ck cs (pc + 1) L (.int (x.toInt8.toInt32) :: S) :=
  own_step w fun X hx _ _ hby _ tg kt => XS.i2b X.here hx rfl (hb hby hd) rfl kt
theorem own_i2c {x : Int32} (w : own_W K B Z n0 h ck cs pc L (.int x :: S)) (hd : decode B.bytes pc = .ok (.i2c, 1)) : own_W K B Z n0 h ck cs (pc + 1) L (.int (x.toUInt32.toUInt16.toUInt32.toInt32) :: S) :=
  own_step w fun X hx _ _ hby _ tg kt => XS.i2c X.here hx rfl (hb hby hd) rfl kt
/-- what a comparison asks of two Ints, and its contrary -/
def own_cd : ClassFile.Cond → Int → Int → Prop
  | .eq, a, b => a = b
  | .ne, a, b => ¬ a = b
  | .lt, a, b => a < b
  | .ge, a, b => ¬ a < b
  | .gt, a, b => b < a
  | .le, a, b => ¬ b < a
def own_cn : ClassFile.Cond → Int → Int → Prop
  | .eq, a, b => ¬ a = b
  | .ne, a, b => a = b
  | .lt, a, b => ¬ a < b
  | .ge, a, b => a < b
  | .gt, a, b => ¬ b < a
  | .le, a, b => b < a
theorem own_yes {x y : Int32} {a b : Int} {cd : ClassFile.Cond} (hx : x.toInt = a) (hy : y.toInt = b) (hc : own_cd cd a b) : if_icmp.holds cd x y = true := by
  subst hx hy
  cases cd with
  | eq => exact (teq (Int32.toInt_inj.mp hc)).1
  | ne => exact (feq (fun q => hc (congrArg _ q))).2
  | lt => exact (tlt (Int32.lt_iff_toInt_lt.mpr hc)).1
  | ge => exact (flt (fun q => hc (Int32.lt_iff_toInt_lt.mp q))).2.1
  | gt => exact (tlt (Int32.lt_iff_toInt_lt.mpr hc)).2.2.1
  | le => exact (flt (fun q => hc (Int32.lt_iff_toInt_lt.mp q))).2.2.2
theorem own_no {x y : Int32} {a b : Int} {cd : ClassFile.Cond} (hx : x.toInt = a) (hy : y.toInt = b) (hc : own_cn cd a b) : if_icmp.holds cd x y = false := by
  subst hx hy
  cases cd with
  | eq => exact (feq (fun q => hc (congrArg _ q))).1
  | ne => exact (teq (Int32.toInt_inj.mp hc)).2
  | lt => exact (flt (fun q => hc (Int32.lt_iff_toInt_lt.mp q))).1
  | ge => exact (tlt (Int32.lt_iff_toInt_lt.mpr hc)).2.1
  | gt => exact (flt (fun q => hc (Int32.lt_iff_toInt_lt.mp q))).2.2.1
  | le => exact (tlt (Int32.lt_iff_toInt_lt.mpr hc)).2.2.2
theorem own_icmpY {x y : Int32} (w : own_W K B Z n0 h ck cs pc L (.int y :: .int x :: S)) {cd : ClassFile.Cond} {o : Int} {pc' : Nat} (hd : decode B.bytes pc = .ok (.if_icmp cd o, 3)) {a b : Int} (hx : x.toInt = a) (hy : y.toInt = b) (hc : own_cd cd a b) (ho : 0 ≤ (pc : Int) + o) (hp : ((pc : Int) + o).toNat = pc') : own_W K B Z n0 h ck cs pc' L S :=
  own_step w fun X hx' _ _ hby _ tg kt => XS.icmpYes X.here hx' rfl (pc0 := pc) rfl (hb hby hd) rfl (own_yes hx hy hc) ho hp kt
theorem own_icmpN {x y : Int32} (w : own_W K B Z n0 h ck cs pc L (.int y :: .int x :: S)) {cd : ClassFile.Cond} {o : Int} (hd : decode B.bytes pc = .ok (.if_icmp cd o, 3)) {a b : Int} (hx : x.toInt = a) (hy : y.toInt = b) (hc : own_cn cd a b) : own_W K B Z n0 h ck cs (pc + 3) L S :=
  own_step w fun X hx' _ _ hby _ tg kt => XS.icmpNo X.here hx' rfl (hb hby hd) rfl (own_no hx hy hc) kt
theorem own_ifY {x : Int32} (w : own_W K B Z n0 h ck cs pc L (.int x :: S)) {cd : ClassFile.Cond} {o : Int} {pc' : Nat} (hd : decode B.bytes pc = .ok (.ifCond cd o, 3)) {a : Int} (hx : x.toInt = a) (hc : own_cd cd a 0) (ho : 0 ≤ (pc : Int) + o) (hp : ((pc : Int) + o).toNat = pc') : own_W K B Z n0 h ck cs pc' L S :=
  own_step w fun X hx' _ _ hby _ tg kt => XS.ifYes X.here hx' rfl (pc0 := pc) rfl (hb hby hd) rfl ((if0 _ _).trans (own_yes (y := 0) hx rfl hc)) ho hp kt
theorem own_ifN {x : Int32} (w : own_W K B Z n0 h ck cs pc L (.int x :: S)) {cd : ClassFile.Cond} {o : Int} (hd : decode B.bytes pc = .ok (.ifCond cd o, 3)) {a : Int} (hx : x.toInt = a) (hc : own_cn cd a 0) : own_W K B Z n0 h ck cs (pc + 3) L S :=
  own_step w fun X hx' _ _ hby _ tg kt => XS.ifNo X.here hx' rfl (hb hby hd) rfl ((if0 _ _).trans (own_no (y := 0) hx rfl hc)) kt
theorem own_end {v : Option Value} {Q : Option Value → Heap → Prop} {gk gs : Nat} (w : own_W K B Z n0 h ck cs pc L S) (hv : B.ret = none → v = none) (hQ : Q v h) (hk : ck ≤ gk) (hs : cs ≤ gs)
    (st : ∀ {p : Program} {l : Launch} {e : Env} {s : State} {m : MethodId} {args : Array Value} {below : List Frame} {meth : Method} {c : Code} {T : State} {locs : List Loc} {fs : List Frame}, Stand p l e B.rm s m args below meth c T locs ck cs → p.tables.exec = Jvm.exec → meth.sig.returnType = B.ret → c.code = B.bytes →
      (∀ (f : JFrame) (acts : List Action), f.method = m → f.locked = none → f.entered = [] → (doReturn e (T.setTop f) acts v).1 = T.setFrames fs) → Steps p.tables e below (T.setTop (mkF m pc L S)) (T.setFrames fs)) : own_G K n0 gk gs Q := by
  obtain ⟨p, l, e, s, m, args, below, meth, c, start⟩ := K
  obtain ⟨hx, hZ, hown, hnm, hby, hml, hret, hlk, hn, T, locs, X, eT, N, pre⟩ := w
  obtain ⟨fs, hr, hrun, hended, hW, hsame⟩ := X.leave (v := v) (fun q => hv (hret.symm.trans q)) hlk
  refine ⟨_, _, pre _ (st X hx hret hby hr), hrun, hended, v, locs, rfl, ⟨?_, N, ?_⟩, ⟨_, rfl⟩, hW, hsame.mono hk hs⟩
  · show Q v T.heap
    rw [eT]; exact hQ
  · show n0 ≤ T.heap.size
    rw [eT]; exact hn
theorem own_retZ {z : Int32} {t : FieldType} {Q : Option Value → Heap → Prop} {gk gs : Nat} (w : own_W K B Z n0 h ck cs pc L (.int z :: S)) (hd : decode B.bytes pc = .ok (.ireturn, 1)) (hret : B.ret = some t) (ht : t = .boolean ∨ t = .byte ∨ t = .char ∨ t = .short) (hQ : Q (some (.int (nar t z))) h) (hk : ck ≤ gk) (hs : cs ≤ gs) : own_G K n0 gk gs Q :=
  own_end w (fun q => by rw [hret] at q; cases q) hQ hk hs fun X hx hr hby hl => retN X hx (hr.trans hret) ht (hb hby hd) hl
theorem own_retI {z : Int32} {Q : Option Value → Heap → Prop} {gk gs : Nat} (w : own_W K B Z n0 h ck cs pc L (.int z :: S)) (hd : decode B.bytes pc = .ok (.ireturn, 1)) (hret : B.ret = some .int) (hQ : Q (some (.int z)) h) (hk : ck ≤ gk) (hs : cs ≤ gs) : own_G K n0 gk gs Q :=
  own_end w (fun q => by rw [hret] at q; cases q) hQ hk hs fun X hx hr hby hl => retI X hx (hr.trans hret) (hb hby hd) hl
theorem own_retV {Q : Option Value → Heap → Prop} {gk gs : Nat} (w : own_W K B Z n0 h ck cs pc L []) (hd : decode B.bytes pc = .ok (.return_, 1)) (hret : B.ret = none) (hQ : Q none h) (hk : ck ≤ gk) (hs : cs ≤ gs) : own_G K n0 gk gs Q :=
  own_end w (fun _ => rfl) hQ hk hs fun X hx hr hby hl => X.returnOut hx (hr.trans hret) (hb hby hd) hl
theorem own_wk {Q Q' : Option Value → Heap → Prop} {gk gs : Nat} (g : own_G K n0 gk gs Q) (q : ∀ v h', Q v h' → Q' v h') : own_G K n0 gk gs Q' := by
  obtain ⟨p, l, e, s, m, args, below, meth, c, start⟩ := K
  obtain ⟨s₂, o, h1, h2, h3, v, L, h4, ⟨h5, h6⟩, h7⟩ := g
  exact ⟨s₂, o, h1, h2, h3, v, L, h4, ⟨q _ _ h5, h6⟩, h7⟩
/-- a static call, by the callee's contract -/
theorem own_callS {By : OwnB} {idx : Nat} {stk rest : List Value} {ps : List FieldType} {r : Option FieldType} {Q : Option Value → Heap → Prop} (as : List Value) (w : own_W K B Z n0 h ck cs pc L stk) (hS : stk = as.reverse ++ rest) (hd : decode B.bytes pc = .ok (.invokestatic idx, 3))
    (w1 : (Jvm.Cond.methodLink B.y.cls idx By.y).before a0 Z = true) (w2 : (Jvm.Cond.static By.y).before a0 Z = true) (w3 : (Jvm.Cond.initialized By.y.cls).before a0 Z = true) (w4 : (Jvm.Cond.code By.y By.bytes By.ml By.ret).before a0 Z = true)
    (hM : ∀ l, own_M l Z n0 By as.toArray h Q) (hy : By.y.cls ≠ "java/lang/invoke/MethodHandle" ∧ By.y.cls ≠ "java/lang/invoke/VarHandle") (hp : parseMethodDescriptor By.y.desc = some ⟨ps, r⟩) (hl : as.length = ps.length) (hsz : L.size = B.ml)
    (hf : By.rm.frames + 1 ≤ B.rm.frames) (hlo : (rest.map fun v => v.category).sum + (By.ml + 11) + By.rm.locals ≤ B.rm.locals) (hc : ck + By.rm.cells ≤ B.rm.cells) (hs : cs + By.rm.slots ≤ B.rm.slots) :
    ∃ v h', Q v h' ∧ own_W K B Z n0 h' (ck + By.rm.cells) (cs + By.rm.slots) (pc + 3) L (v.toList ++ rest) := by
  obtain ⟨p, l, e, s, m, args, below, meth, c, start⟩ := K
  obtain ⟨hx, hZ, hown, hnm, hby, hml, hret, hlk, hn, T, locs, X, eT, N, pre⟩ := w
  obtain ⟨v, _, ⟨T', L', k', n'⟩, -, X', ⟨Lc, hQ, l', y', z'⟩, st⟩ := Jvm.LawKit.callS X hx (y := By.y) hown (mvT hZ w1) (mvT hZ w2) (mvT hZ w3) (mvT hZ w4) hy (backOf (W := (rest.map fun v => v.category).sum) (Q := fun v h' L => Q v h' ∧ Fr n0 L ∧ n0 ≤ h'.size) (hM l []) hZ w4 w3 hf hlo) (g := mkF m pc L stk) rfl (by rw [hml]; exact hsz) (argsL := as) (rest := rest) (lenOf hp hl) hS (by show 2 * 0 + _ ≤ _; exact Nat.le_of_eq (by simp)) (hb hby hd) (fun _ _ => ⟨rfl, eT, hc, hs⟩)
  dsimp only [Pt.U, Pt.locs, Pt.cells, Pt.slots] at X' l' y' z' st hQ
  subst l' y' z'
  exact ⟨v, T'.heap, hQ.1, hx, hZ, hown, hnm, hby, hml, hret, hlk, hQ.2.2, T', _, X', rfl, N.app hQ.2.1, fun tg k => pre tg (st tg k)⟩
/-- a constructor, by its contract -/
theorem own_callI {By : OwnB} {idx : Nat} {stk rest : List Value} {ps : List FieldType} {r : Option FieldType} {Q : Option Value → Heap → Prop} (a : Addr) (as : List Value) (w : own_W K B Z n0 h ck cs pc L stk) (hS : stk = as.reverse ++ .ref a :: rest) (hd : decode B.bytes pc = .ok (.invokespecial idx, 3)) (hni : By.y.name = "<init>") (hnr : By.ret = none)
    (w1 : (Jvm.Cond.methodLink B.y.cls idx By.y).before a0 Z = true) (w2 : (Jvm.Cond.instanceMethod By.y).before a0 Z = true) (w3 : (Jvm.Cond.initialized By.y.cls).before a0 Z = true) (w4 : (Jvm.Cond.code By.y By.bytes By.ml By.ret).before a0 Z = true)
    (hM : ∀ l, own_M l Z n0 By (.ref a :: as).toArray h Q) (hy : By.y.cls ≠ "java/lang/invoke/MethodHandle" ∧ By.y.cls ≠ "java/lang/invoke/VarHandle") (hp : parseMethodDescriptor By.y.desc = some ⟨ps, r⟩) (hl : as.length = ps.length) (hsz : L.size = B.ml)
    (hf : By.rm.frames + 1 ≤ B.rm.frames) (hlo : (rest.map fun v => v.category).sum + (By.ml + 11) + By.rm.locals ≤ B.rm.locals) (hc : ck + By.rm.cells ≤ B.rm.cells) (hs : cs + By.rm.slots ≤ B.rm.slots) :
    ∃ v h', Q v h' ∧ own_W K B Z n0 h' (ck + By.rm.cells) (cs + By.rm.slots) (pc + 3) L (v.toList ++ rest) := by
  obtain ⟨p, l, e, s, m, args, below, meth, c, start⟩ := K
  obtain ⟨hx, hZ, hown, hnm, hby, hml, hret, hlk, hn, T, locs, X, eT, N, pre⟩ := w
  obtain ⟨v, _, ⟨T', L', k', n'⟩, -, X', ⟨Lc, hQ, l', y', z'⟩, st⟩ := X.specialBack hx (y := By.y) hni hown (mvT hZ w1) (mvT hZ w2) (mvT hZ (hnr ▸ w4)) hy (backOf (W := (rest.map fun v => v.category).sum) (Q := fun v h' L => Q v h' ∧ Fr n0 L ∧ n0 ≤ h'.size) (hM l []) hZ w4 w3 hf hlo) (g := mkF m pc L stk) rfl (by rw [hml]; exact hsz) (Steps.refl _) (a := a) (argsL := as) (rest := rest) (lenOf hp hl) hS (by show 2 * 0 + _ ≤ _; exact Nat.le_of_eq (by simp)) (hb hby hd) (fun _ _ => ⟨rfl, eT, hc, hs⟩)
  dsimp only [Pt.U, Pt.locs, Pt.cells, Pt.slots] at X' l' y' z' st hQ
  subst l' y' z'
  exact ⟨v, T'.heap, hQ.1, hx, hZ, hown, hnm, hby, hml, hret, hlk, hQ.2.2, T', _, X', rfl, N.app hQ.2.1, fun tg k => pre tg (st.trans k)⟩
/-- a nest mate's constructor, by its contract -/
theorem own_callN {By : OwnB} {host : String} {idx : Nat} {stk rest : List Value} {ps : List FieldType} {r : Option FieldType} {Q : Option Value → Heap → Prop} (a : Addr) (as : List Value) (w : own_W K B Z n0 h ck cs pc L stk) (hS : stk = as.reverse ++ .ref a :: rest) (hd : decode B.bytes pc = .ok (.invokespecial idx, 3)) (hni : By.y.name = "<init>") (hnr : By.ret = none)
    (w1 : (Jvm.Cond.methodLinkNest B.y.cls idx By.y host).before a0 Z = true) (w2 : (Jvm.Cond.instanceMethod By.y).before a0 Z = true) (w3 : (Jvm.Cond.initialized By.y.cls).before a0 Z = true) (w4 : (Jvm.Cond.code By.y By.bytes By.ml By.ret).before a0 Z = true)
    (hM : ∀ l, own_M l Z n0 By (.ref a :: as).toArray h Q) (hy : By.y.cls ≠ "java/lang/invoke/MethodHandle" ∧ By.y.cls ≠ "java/lang/invoke/VarHandle") (hp : parseMethodDescriptor By.y.desc = some ⟨ps, r⟩) (hl : as.length = ps.length) (hsz : L.size = B.ml)
    (hf : By.rm.frames + 1 ≤ B.rm.frames) (hlo : (rest.map fun v => v.category).sum + (By.ml + 11) + By.rm.locals ≤ B.rm.locals) (hc : ck + By.rm.cells ≤ B.rm.cells) (hs : cs + By.rm.slots ≤ B.rm.slots) :
    ∃ v h', Q v h' ∧ own_W K B Z n0 h' (ck + By.rm.cells) (cs + By.rm.slots) (pc + 3) L (v.toList ++ rest) := by
  obtain ⟨p, l, e, s, m, args, below, meth, c, start⟩ := K
  obtain ⟨hx, hZ, hown, hnm, hby, hml, hret, hlk, hn, T, locs, X, eT, N, pre⟩ := w
  obtain ⟨v, _, ⟨T', L', k', n'⟩, -, X', ⟨Lc, hQ, l', y', z'⟩, st⟩ := X.specialBackNest hx (y := By.y) (host := host) hni hown (Cond.methodLinkNest_wide hZ w1 :) (mvT hZ w2) (mvT hZ (hnr ▸ w4)) hy (backOf (W := (rest.map fun v => v.category).sum) (Q := fun v h' L => Q v h' ∧ Fr n0 L ∧ n0 ≤ h'.size) (hM l []) hZ w4 w3 hf hlo) (g := mkF m pc L stk) rfl (by rw [hml]; exact hsz) (Steps.refl _) (a := a) (argsL := as) (rest := rest) (lenOf hp hl) hS (by show 2 * 0 + _ ≤ _; exact Nat.le_of_eq (by simp)) (hb hby hd) (fun _ _ => ⟨rfl, eT, hc, hs⟩)
  dsimp only [Pt.U, Pt.locs, Pt.cells, Pt.slots] at X' l' y' z' st hQ
  subst l' y' z'
  exact ⟨v, T'.heap, hQ.1, hx, hZ, hown, hnm, hby, hml, hret, hlk, hQ.2.2, T', _, X', rfl, N.app hQ.2.1, fun tg k => pre tg (st.trans k)⟩
/-- an instance method of the object's own class, by its contract -/
theorem own_callV {By : OwnB} {idx : Nat} {stk rest : List Value} {ps : List FieldType} {r : Option FieldType} {Q : Option Value → Heap → Prop} (a : Addr) (as : List Value) (w : own_W K B Z n0 h ck cs pc L stk) (hS : stk = as.reverse ++ .ref a :: rest) (hd : decode B.bytes pc = .ok (.invokevirtual idx, 3)) (E : Exa Z h a By.y.cls)
    (w1 : (Jvm.Cond.methodLink B.y.cls idx By.y).before a0 Z = true) (wd : (Jvm.Cond.declares By.y).before a0 Z = true) (w2 : (Jvm.Cond.instanceMethod By.y).before a0 Z = true) (wsel : (Jvm.Cond.selects By.y.cls By.y By.y).before a0 Z = true) (w3 : (Jvm.Cond.initialized By.y.cls).before a0 Z = true) (w4 : (Jvm.Cond.code By.y By.bytes By.ml By.ret).before a0 Z = true)
    (hM : ∀ l, own_M l Z n0 By (.ref a :: as).toArray h Q) (hy : By.y.cls ≠ "java/lang/invoke/MethodHandle" ∧ By.y.cls ≠ "java/lang/invoke/VarHandle") (hp : parseMethodDescriptor By.y.desc = some ⟨ps, r⟩) (hl : as.length = ps.length) (hsz : L.size = B.ml)
    (hf : By.rm.frames + 1 ≤ B.rm.frames) (hlo : (rest.map fun v => v.category).sum + (By.ml + 11) + By.rm.locals ≤ B.rm.locals) (hc : ck + By.rm.cells ≤ B.rm.cells) (hs : cs + By.rm.slots ≤ B.rm.slots) :
    ∃ v h', Q v h' ∧ own_W K B Z n0 h' (ck + By.rm.cells) (cs + By.rm.slots) (pc + 3) L (v.toList ++ rest) := by
  obtain ⟨p, l, e, s, m, args, below, meth, c, start⟩ := K
  obtain ⟨hx, hZ, hown, hnm, hby, hml, hret, hlk, hn, T, locs, X, eT, N, pre⟩ := w
  obtain ⟨cq, kq, q1, q2, q3⟩ := isOf hZ eT E
  obtain ⟨v, _, ⟨T', L', k', n'⟩, -, X', ⟨Lc, hQ, l', y', z'⟩, st⟩ := X.virtualBack hx (y := By.y) (z := By.y) hown (mvT hZ w1) (mvT hZ wd) (notFace_of_selects (args := #[]) (mvT hZ wsel)) (mvT hZ wsel) (mvT hZ w2) hy (backOf (W := (rest.map fun v => v.category).sum) (Q := fun v h' L => Q v h' ∧ Fr n0 L ∧ n0 ≤ h'.size) (hM l []) hZ w4 w3 hf hlo) q1 q3 (g := mkF m pc L stk) rfl (by rw [hml]; exact hsz) (Steps.refl _) (argsL := as) (rest := rest) (lenOf hp hl) hS (by show 2 * 0 + _ ≤ _; exact Nat.le_of_eq (by simp)) (hb hby hd) (fun _ _ => ⟨rfl, eT, hc, hs⟩)
  dsimp only [Pt.U, Pt.locs, Pt.cells, Pt.slots] at X' l' y' z' st hQ
  subst l' y' z'
  exact ⟨v, T'.heap, hQ.1, hx, hZ, hown, hnm, hby, hml, hret, hlk, hQ.2.2, T', _, X', rfl, N.app hQ.2.1, fun tg k => pre tg (st.trans k)⟩
/-- Object.<init> -/
theorem own_initO {a : Addr} {idx : Nat} (w : own_W K B Z n0 h ck cs pc L (.ref a :: S)) (hd : decode B.bytes pc = .ok (.invokespecial idx, 3)) (w1 : (Jvm.Cond.methodLink B.y.cls idx Lib.objectInit).before a0 Z = true) (w2 : (Jvm.Cond.instanceMethod Lib.objectInit).before a0 Z = true)
    (w3 : (Jvm.Cond.code Lib.objectInit ⟨#[0xb1]⟩ 1 none).before a0 Z = true) (hsz : L.size = B.ml) (hf : 1 ≤ B.rm.frames) (hlo : (S.map fun v => v.category).sum + 12 ≤ B.rm.locals) : own_W K B Z n0 h ck cs (pc + 3) L S := by
  obtain ⟨p, l, e, s, m, args, below, meth, c, start⟩ := K
  obtain ⟨hx, hZ, hown, hnm, hby, hml, hret, hlk, hn, T, locs, X, eT, N, pre⟩ := w
  obtain ⟨T', X', e', st⟩ := initO X hx hZ hown w1 w2 w3 eT (g := mkF m pc L (.ref a :: S)) rfl (by rw [hml]; exact hsz) rfl (hb hby hd) hf (W := (S.map fun v => v.category).sum) (by show 2 * 0 + _ ≤ _; exact Nat.le_of_eq (by simp)) hlo
  exact ⟨hx, hZ, hown, hnm, hby, hml, hret, hlk, hn, T', locs, X', e', N, fun tg k => pre tg (st tg k)⟩
theorem own_getF {a : Addr} {idx : Nat} {O n d : String} {v : Value} (w : own_W K B Z n0 h ck cs pc L (.ref a :: S)) (hd : decode B.bytes pc = .ok (.getfield idx, 3)) (wl : (Jvm.Cond.fieldLink B.y.cls idx O n d).before a0 Z = true) (F : Fld Z h a O n d v) : own_W K B Z n0 h ck cs (pc + 3) L (v :: S) := by
  obtain ⟨p, l, e, s, m, args, below, meth, c, start⟩ := K
  obtain ⟨hx, hZ, hown, hnm, hby, hml, hret, hlk, hn, T, locs, X, eT, N, pre⟩ := w
  obtain ⟨T', X', e', st⟩ := getF X hx hZ hown (host := "") (Or.inl wl) Via.refl eT F (g := mkF m pc L (.ref a :: S)) rfl rfl (hb hby hd)
  exact ⟨hx, hZ, hown, hnm, hby, hml, hret, hlk, hn, T', locs, X', e', N, fun tg k => pre tg (st tg k)⟩
/-- putfield of a final field in a constructor of its class -/
theorem own_putF {a : Addr} {idx kk : Nat} {n d : String} {v old : Value} {ty : FieldType} (w : own_W K B Z n0 h ck cs pc L (v :: .ref a :: S)) (hd : decode B.bytes pc = .ok (.putfield idx, 3)) (wl : (Jvm.Cond.fieldLink B.y.cls idx B.y.cls n d).before a0 Z = true) (F : Fld Z h a B.y.cls n d old) (E : Exa Z h a B.y.cls)
    (wf : (Jvm.Cond.laysFinal B.y.cls B.y.cls n d).before a0 Z = true) (wi : (Jvm.Cond.instantiable B.y.cls kk).before a0 Z = true) (hni : B.y.name = "<init>") (hty : parseFieldDescriptor d = some ty) (hnr : narrow ty v = v) (hft : fits ty v = true) (ga : n0 ≤ a) :
    ∃ h', own_W K B Z n0 h' ck cs (pc + 3) L S ∧ Fld Z h' a B.y.cls n d v ∧ Keep h h' [a] := by
  obtain ⟨p, l, e, s, m, args, below, meth, c, start⟩ := K
  obtain ⟨hx, hZ, hown, hnm, hby, hml, hret, hlk, hn, T, locs, X, eT, N, pre⟩ := w
  obtain ⟨T', h', X', e', W', st⟩ := putF X hx hZ hown (host := "") (Or.inl wl) Via.refl eT F E (Or.inr ⟨wf, rfl, hnm.trans hni⟩) wi hty hnr hft (g := mkF m pc L (v :: .ref a :: S)) rfl rfl (hb hby hd)
  exact ⟨h', ⟨hx, hZ, hown, hnm, hby, hml, hret, hlk, by rw [W'.size]; exact hn, T', _, X', e', Fr.snoc X' N ga, fun tg k => pre tg (st tg k)⟩, F.same W', Keep.of_wr W'⟩
theorem own_newO {idx k : Nat} {C : String} (w : own_W K B Z n0 h ck cs pc L S) (hd : decode B.bytes pc = .ok (.new idx, 3)) (wl : (Jvm.Cond.classLink B.y.cls idx C).before a0 Z = true) (wi : (Jvm.Cond.instantiable C k).before a0 Z = true) (wz : (Jvm.Cond.initialized C).before a0 Z = true) (hc : ck + 1 ≤ B.rm.cells) (hs : cs + k ≤ B.rm.slots) :
    ∃ h' a, own_W K B Z n0 h' (ck + 1) (cs + k) (pc + 3) L (.ref a :: S) ∧ a = h.size ∧ n0 ≤ a ∧ Ext h h' ∧ Exa Z h' a C ∧ (∀ {O nm d : String} {ty : FieldType}, Laid Z a0 C O nm d → parseFieldDescriptor d = some ty → Fld Z h' a O nm d (defaultValue ty)) := by
  obtain ⟨p, l, e, s, m, args, below, meth, c, start⟩ := K
  obtain ⟨hx, hZ, hown, hnm, hby, hml, hret, hlk, hn, T, locs, X, eT, N, pre⟩ := w
  obtain ⟨T', h', X', e', E, A, D, -, st⟩ := newO X hx hZ hown wl wi wz eT (g := mkF m pc L S) rfl (hb hby hd) hc hs
  exact ⟨h', h.size, ⟨hx, hZ, hown, hnm, hby, hml, hret, hlk, Nat.le_trans hn E.1, T', _, X', e', N, fun tg k => pre tg (st tg k)⟩, rfl, hn, E, A, D⟩
/-- an array of ints, bytes or chars, and what it holds -/
def own_A (ty : FieldType) (Z : State) (h : Heap) (a : Addr) (l : List Int32) : Prop := ∃ c : Cell, Arr Z h a c ty ∧ c.slots.size = l.length ∧ l.length < 2 ^ 31 ∧ ∀ i, i < l.length → c.slots[i]? = some (.int (l.getD i 0))
def own_J (Z : State) (h : Heap) (a : Addr) (l : List Int64) : Prop := ∃ c : Cell, Arr Z h a c .long ∧ c.slots.size = l.length ∧ l.length < 2 ^ 31 ∧ ∀ i, i < l.length → c.slots[i]? = some (.long (l.getD i 0))
variable {ty : FieldType} {a b : Addr} {l : List Int32} {lj : List Int64} {h' : Heap}
theorem own_Alt (A : own_A ty Z h a l) : a < h.size := by obtain ⟨c, A, -⟩ := A; exact A.lt
theorem own_Jlt (A : own_J Z h a lj) : a < h.size := by obtain ⟨c, A, -⟩ := A; exact A.lt
theorem own_Aext (A : own_A ty Z h a l) (E : Ext h h') : own_A ty Z h' a l := by obtain ⟨c, A, r⟩ := A; exact ⟨c, A.ext E, r⟩
theorem own_Jext (A : own_J Z h a lj) (E : Ext h h') : own_J Z h' a lj := by obtain ⟨c, A, r⟩ := A; exact ⟨c, A.ext E, r⟩
theorem own_Akeep {ws : List Addr} (A : own_A ty Z h a l) (K : Keep h h' ws) (q : a ∉ ws) : own_A ty Z h' a l := by obtain ⟨c, A, r⟩ := A; exact ⟨c, ⟨K.2.1 a c A.1 q, A.2⟩, r⟩
theorem own_Jkeep {ws : List Addr} (A : own_J Z h a lj) (K : Keep h h' ws) (q : a ∉ ws) : own_J Z h' a lj := by obtain ⟨c, A, r⟩ := A; exact ⟨c, ⟨K.2.1 a c A.1 q, A.2⟩, r⟩
theorem own_nin {x y : Addr} (q : x ≠ y) : x ∉ [y] := ninS q nin0
theorem own_clamp {j : Int32} {i : Nat} (e : j.toInt = i) : j.toNatClampNeg = i := by rw [Int32.toNatClampNeg, e]; rfl
theorem own_inb {j : Int32} {i n : Nat} (e : j.toInt = i) (q : i < n) : ¬ (j < 0 ∨ n ≤ j.toNatClampNeg) := by
  rw [own_clamp e, Int32.lt_iff_toInt_lt, e]
  have : (0 : Int32).toInt = 0 := rfl
  omega
theorem own_setD {l : List Int32} {i : Nat} {x : Int32} (k : Nat) (hk : k < l.length) : (l.set i x).getD k 0 = if i = k then x else l.getD k 0 := by
  simp only [List.getD_eq_getElem?_getD, List.getElem?_set]
  split
  · subst_vars; simp [hk]
  · rfl
theorem own_setJ {l : List Int64} {i : Nat} {x : Int64} (k : Nat) (hk : k < l.length) : (l.set i x).getD k 0 = if i = k then x else l.getD k 0 := by
  simp only [List.getD_eq_getElem?_getD, List.getElem?_set]
  split
  · subst_vars; simp [hk]
  · rfl
theorem own_Aset {c : Cell} {i : Nat} {j x : Int32} (A : Arr Z h a c ty) (hs : c.slots.size = l.length) (hb : l.length < 2 ^ 31) (H : ∀ i, i < l.length → c.slots[i]? = some (.int (l.getD i 0))) (W : Wr h h' a j.toNatClampNeg (.int x)) (e : j.toInt = i) (hi : i < l.length) : own_A ty Z h' a (l.set i x) := by
  refine ⟨_, A.same W, by rw [sz_set, List.length_set]; exact hs, by rw [List.length_set]; exact hb, fun k hk => ?_⟩
  rw [List.length_set] at hk
  rw [own_setD k hk, own_clamp e]
  by_cases u : i = k
  · subst u; simp [Cell.setSlot, hs, hk]
  · rw [if_neg u, ← H k hk]
    exact Array.getElem?_setIfInBounds_ne u
theorem own_Jset {c : Cell} {i : Nat} {j : Int32} {x : Int64} (A : Arr Z h a c .long) (hs : c.slots.size = lj.length) (hb : lj.length < 2 ^ 31) (H : ∀ i, i < lj.length → c.slots[i]? = some (.long (lj.getD i 0))) (W : Wr h h' a j.toNatClampNeg (.long x)) (e : j.toInt = i) (hi : i < lj.length) : own_J Z h' a (lj.set i x) := by
  refine ⟨_, A.same W, by rw [sz_set, List.length_set]; exact hs, by rw [List.length_set]; exact hb, fun k hk => ?_⟩
  rw [List.length_set] at hk
  rw [own_setJ k hk, own_clamp e]
  by_cases u : i = k
  · subst u; simp [Cell.setSlot, hs, hk]
  · rw [if_neg u, ← H k hk]
    exact Array.getElem?_setIfInBounds_ne u
theorem own_iastore {j x : Int32} (w : own_W K B Z n0 h ck cs pc L (.int x :: .int j :: .ref a :: S)) (hd : decode B.bytes pc = .ok (.iastore, 1)) (A : own_A .int Z h a l) (i : Nat) (e : j.toInt = i) (hi : i < l.length) (ga : n0 ≤ a) {l' : List Int32} (el : l.set i x = l') :
    ∃ h', own_W K B Z n0 h' ck cs (pc + 1) L S ∧ own_A .int Z h' a l' ∧ Keep h h' [a] := by
  subst el
  obtain ⟨p, l, e', s, m, args, below, meth, c, start⟩ := K
  obtain ⟨hx, hZ, hown, hnm, hby, hml, hret, hlk, hn, T, locs, X, eT, N, pre⟩ := w
  obtain ⟨cl, Ar, hs, hb1, H⟩ := A
  obtain ⟨T', h', X', e1, W', st⟩ := stI X hx hZ eT Ar (j := j) (own_inb e (by rw [hs]; exact hi)) (g := mkF m pc L (.int x :: .int j :: .ref a :: S)) rfl rfl (hb hby hd)
  exact ⟨h', ⟨hx, hZ, hown, hnm, hby, hml, hret, hlk, by rw [W'.size]; exact hn, T', _, X', e1, Fr.snoc X' N ga, fun tg k => pre tg (st tg k)⟩, own_Aset Ar hs hb1 H W' e hi, Keep.of_wr W'⟩
theorem own_bastore {j x : Int32} (w : own_W K B Z n0 h ck cs pc L (.int x :: .int j :: .ref a :: S)) (hd : decode B.bytes pc = .ok (.bastore, 1)) (A : own_A .byte Z h a l) (i : Nat) (e : j.toInt = i) (hi : i < l.length) (ga : n0 ≤ a) {l' : List Int32} (el : l.set i (nar .byte x) = l') :
    ∃ h', own_W K B Z n0 h' ck cs (pc + 1) L S ∧ own_A .byte Z h' a l' ∧ Keep h h' [a] := by
  subst el
  obtain ⟨p, l, e', s, m, args, below, meth, c, start⟩ := K
  obtain ⟨hx, hZ, hown, hnm, hby, hml, hret, hlk, hn, T, locs, X, eT, N, pre⟩ := w
  obtain ⟨cl, Ar, hs, hb1, H⟩ := A
  obtain ⟨T', h', X', e1, W', st⟩ := stB X hx hZ eT Ar (j := j) (own_inb e (by rw [hs]; exact hi)) (g := mkF m pc L (.int x :: .int j :: .ref a :: S)) rfl rfl (hb hby hd)
  exact ⟨h', ⟨hx, hZ, hown, hnm, hby, hml, hret, hlk, by rw [W'.size]; exact hn, T', _, X', e1, Fr.snoc X' N ga, fun tg k => pre tg (st tg k)⟩, own_Aset Ar hs hb1 H W' e hi, Keep.of_wr W'⟩
theorem own_castore {j x : Int32} (w : own_W K B Z n0 h ck cs pc L (.int x :: .int j :: .ref a :: S)) (hd : decode B.bytes pc = .ok (.castore, 1)) (A : own_A .char Z h a l) (i : Nat) (e : j.toInt = i) (hi : i < l.length) (ga : n0 ≤ a) {l' : List Int32} (el : l.set i (nar .char x) = l') :
    ∃ h', own_W K B Z n0 h' ck cs (pc + 1) L S ∧ own_A .char Z h' a l' ∧ Keep h h' [a] := by
  subst el
  obtain ⟨p, l, e', s, m, args, below, meth, c, start⟩ := K
  obtain ⟨hx, hZ, hown, hnm, hby, hml, hret, hlk, hn, T, locs, X, eT, N, pre⟩ := w
  obtain ⟨cl, Ar, hs, hb1, H⟩ := A
  obtain ⟨T', h', X', e1, W', st⟩ := stC X hx hZ eT Ar (j := j) (own_inb e (by rw [hs]; exact hi)) (g := mkF m pc L (.int x :: .int j :: .ref a :: S)) rfl rfl (hb hby hd)
  exact ⟨h', ⟨hx, hZ, hown, hnm, hby, hml, hret, hlk, by rw [W'.size]; exact hn, T', _, X', e1, Fr.snoc X' N ga, fun tg k => pre tg (st tg k)⟩, own_Aset Ar hs hb1 H W' e hi, Keep.of_wr W'⟩
theorem own_lastore {j : Int32} {x : Int64} (w : own_W K B Z n0 h ck cs pc L (.long x :: .int j :: .ref a :: S)) (hd : decode B.bytes pc = .ok (.lastore, 1)) (A : own_J Z h a lj) (i : Nat) (e : j.toInt = i) (hi : i < lj.length) (ga : n0 ≤ a) {l' : List Int64} (el : lj.set i x = l') :
    ∃ h', own_W K B Z n0 h' ck cs (pc + 1) L S ∧ own_J Z h' a l' ∧ Keep h h' [a] := by
  subst el
  obtain ⟨p, l, e', s, m, args, below, meth, c, start⟩ := K
  obtain ⟨hx, hZ, hown, hnm, hby, hml, hret, hlk, hn, T, locs, X, eT, N, pre⟩ := w
  obtain ⟨cl, Ar, hs, hb1, H⟩ := A
  obtain ⟨T', h', X', e1, W', st⟩ := stJ X hx hZ eT Ar (j := j) (own_inb e (by rw [hs]; exact hi)) (g := mkF m pc L (.long x :: .int j :: .ref a :: S)) rfl rfl (hb hby hd)
  exact ⟨h', ⟨hx, hZ, hown, hnm, hby, hml, hret, hlk, by rw [W'.size]; exact hn, T', _, X', e1, Fr.snoc X' N ga, fun tg k => pre tg (st tg k)⟩, own_Jset Ar hs hb1 H W' e hi, Keep.of_wr W'⟩
theorem own_iaload {j : Int32} (w : own_W K B Z n0 h ck cs pc L (.int j :: .ref a :: S)) (hd : decode B.bytes pc = .ok (.iaload, 1)) (A : own_A .int Z h a l) (i : Nat) (e : j.toInt = i) (hi : i < l.length) {v : Int32} (ev : l.getD i 0 = v) : own_W K B Z n0 h ck cs (pc + 1) L (.int v :: S) := by
  obtain ⟨cl, Ar, hs, hb1, H⟩ := A
  exact own_step w fun X hx hZ _ hby eT tg kt => X.iaload hx (cell := cl) (j := j) (v := .int v) (by rw [eT]; exact Ar.1) (State.isArrayOf_alike hZ.alike Ar.2.1) Ar.2.2 (own_inb e (by rw [hs]; exact hi)) (by rw [own_clamp e, H i hi, ev]) (g := mkF _ pc L (.int j :: .ref a :: S)) rfl rfl (hb hby hd) tg kt
theorem own_baload {j : Int32} (w : own_W K B Z n0 h ck cs pc L (.int j :: .ref a :: S)) (hd : decode B.bytes pc = .ok (.baload, 1)) (A : own_A .byte Z h a l) (i : Nat) (e : j.toInt = i) (hi : i < l.length) {v : Int32} (ev : l.getD i 0 = v) : own_W K B Z n0 h ck cs (pc + 1) L (.int v :: S) := by
  obtain ⟨cl, Ar, hs, hb1, H⟩ := A
  exact own_step w fun X hx hZ _ hby eT tg kt => X.baloadBytes hx (cell := cl) (j := j) (v := .int v) (by rw [eT]; exact Ar.1) (State.isArrayOf_alike hZ.alike Ar.2.1) Ar.2.2 (own_inb e (by rw [hs]; exact hi)) (by rw [own_clamp e, H i hi, ev]) (g := mkF _ pc L (.int j :: .ref a :: S)) rfl rfl (hb hby hd) tg kt
theorem own_caload {j : Int32} (w : own_W K B Z n0 h ck cs pc L (.int j :: .ref a :: S)) (hd : decode B.bytes pc = .ok (.caload, 1)) (A : own_A .char Z h a l) (i : Nat) (e : j.toInt = i) (hi : i < l.length) {v : Int32} (ev : l.getD i 0 = v) : own_W K B Z n0 h ck cs (pc + 1) L (.int v :: S) := by
  obtain ⟨cl, Ar, hs, hb1, H⟩ := A
  exact own_step w fun X hx hZ _ hby eT tg kt => X.caload hx (cell := cl) (j := j) (v := .int v) (by rw [eT]; exact Ar.1) (State.isArrayOf_alike hZ.alike Ar.2.1) Ar.2.2 (own_inb e (by rw [hs]; exact hi)) (by rw [own_clamp e, H i hi, ev]) (g := mkF _ pc L (.int j :: .ref a :: S)) rfl rfl (hb hby hd) tg kt
theorem own_laload {j : Int32} (w : own_W K B Z n0 h ck cs pc L (.int j :: .ref a :: S)) (hd : decode B.bytes pc = .ok (.laload, 1)) (A : own_J Z h a lj) (i : Nat) (e : j.toInt = i) (hi : i < lj.length) {v : Int64} (ev : lj.getD i 0 = v) : own_W K B Z n0 h ck cs (pc + 1) L (.long v :: S) := by
  obtain ⟨cl, Ar, hs, hb1, H⟩ := A
  exact own_step w fun X hx hZ _ hby eT tg kt => X.laload hx (cell := cl) (j := j) (v := .long v) (by rw [eT]; exact Ar.1) (State.isArrayOf_alike hZ.alike Ar.2.1) Ar.2.2 (own_inb e (by rw [hs]; exact hi)) (by rw [own_clamp e, H i hi, ev]) (g := mkF _ pc L (.int j :: .ref a :: S)) rfl rfl (hb hby hd) tg kt
theorem own_alen (w : own_W K B Z n0 h ck cs pc L (.ref a :: S)) (hd : decode B.bytes pc = .ok (.arraylength, 1)) (A : own_A ty Z h a l) : own_W K B Z n0 h ck cs (pc + 1) L (.int l.length.toInt32 :: S) := by
  obtain ⟨cl, Ar, hs, hb1, H⟩ := A
  exact own_step w fun X hx hZ _ hby eT tg kt => X.arraylength hx (cell := cl) (by rw [eT]; exact Ar.1) (State.isArrayOf_alike hZ.alike Ar.2.1) (g := mkF _ pc L (.ref a :: S)) rfl rfl (hb hby hd) tg (by rw [hs]; exact kt)
theorem own_alenJ (w : own_W K B Z n0 h ck cs pc L (.ref a :: S)) (hd : decode B.bytes pc = .ok (.arraylength, 1)) (A : own_J Z h a lj) : own_W K B Z n0 h ck cs (pc + 1) L (.int lj.length.toInt32 :: S) := by
  obtain ⟨cl, Ar, hs, hb1, H⟩ := A
  exact own_step w fun X hx hZ _ hby eT tg kt => X.arraylength hx (cell := cl) (by rw [eT]; exact Ar.1) (State.isArrayOf_alike hZ.alike Ar.2.1) (g := mkF _ pc L (.ref a :: S)) rfl rfl (hb hby hd) tg (by rw [hs]; exact kt)
theorem own_newP {aty : ArrayType} {n : Int32} (w : own_W K B Z n0 h ck cs pc L (.int n :: S)) (hd : decode B.bytes pc = .ok (.newarray aty, 2)) (wa : (Jvm.Cond.arrayClass (newarray.typeOf aty)).before a0 Z = true) (k cap : Nat) (e : n.toInt = k) (hk : k ≤ cap) (hcap : cap < 1000) (hc : ck + 1 ≤ B.rm.cells) (hs : cs + cap ≤ B.rm.slots) :
    ∃ h' a cA, own_W K B Z n0 h' (ck + 1) (cs + cap) (pc + 2) L (.ref a :: S) ∧ a = h.size ∧ n0 ≤ a ∧ Ext h h' ∧ Arr Z h' a (newA cA (newarray.typeOf aty) n) (newarray.typeOf aty) := by
  obtain ⟨p, l, e', s, m, args, below, meth, c, start⟩ := K
  obtain ⟨hx, hZ, hown, hnm, hby, hml, hret, hlk, hn, T, locs, X, eT, N, pre⟩ := w
  have q1 : n.toNatClampNeg = k := own_clamp e
  have q2 : ¬ n < 0 := by
    rw [Int32.lt_iff_toInt_lt, e]
    have : (0 : Int32).toInt = 0 := rfl
    omega
  obtain ⟨T', h', cA, X', e1, E, A, st⟩ := newP X hx hZ wa eT (g := mkF m pc L (.int n :: S)) rfl (hb hby hd) rfl q2 (cap := cap) (by rw [q1]; exact hk) (by omega) hc hs
  exact ⟨h', h.size, cA, ⟨hx, hZ, hown, hnm, hby, hml, hret, hlk, Nat.le_trans hn E.1, T', _, X', e1, N, fun tg k => pre tg (st tg k)⟩, rfl, hn, E, A⟩
theorem own_newI {aty : ArrayType} {n : Int32} (w : own_W K B Z n0 h ck cs pc L (.int n :: S)) (hd : decode B.bytes pc = .ok (.newarray aty, 2)) (wa : (Jvm.Cond.arrayClass (newarray.typeOf aty)).before a0 Z = true) (hdf : defaultValue (newarray.typeOf aty) = .int 0) (k cap : Nat) (e : n.toInt = k) (hk : k ≤ cap) (hcap : cap < 1000) (hc : ck + 1 ≤ B.rm.cells) (hs : cs + cap ≤ B.rm.slots) {l' : List Int32} (el : List.replicate k 0 = l') :
    ∃ h' a, own_W K B Z n0 h' (ck + 1) (cs + cap) (pc + 2) L (.ref a :: S) ∧ a = h.size ∧ n0 ≤ a ∧ Ext h h' ∧ own_A (newarray.typeOf aty) Z h' a l' := by
  subst el
  obtain ⟨h', a, cA, w', e1, g, E, A⟩ := own_newP w hd wa k cap e hk hcap hc hs
  have q1 : n.toNatClampNeg = k := own_clamp e
  refine ⟨h', a, w', e1, g, E, _, A, by rw [sz_new, q1, List.length_replicate], by rw [List.length_replicate]; omega, fun i hi => ?_⟩
  rw [List.length_replicate] at hi
  simp [newA, q1, hi, hdf, List.getD_eq_getElem?_getD]
theorem own_newJ {n : Int32} (w : own_W K B Z n0 h ck cs pc L (.int n :: S)) (hd : decode B.bytes pc = .ok (.newarray .long, 2)) (wa : (Jvm.Cond.arrayClass .long).before a0 Z = true) (k cap : Nat) (e : n.toInt = k) (hk : k ≤ cap) (hcap : cap < 1000) (hc : ck + 1 ≤ B.rm.cells) (hs : cs + cap ≤ B.rm.slots) {l' : List Int64} (el : List.replicate k 0 = l') :
    ∃ h' a, own_W K B Z n0 h' (ck + 1) (cs + cap) (pc + 2) L (.ref a :: S) ∧ a = h.size ∧ n0 ≤ a ∧ Ext h h' ∧ own_J Z h' a l' := by
  subst el
  obtain ⟨h', a, cA, w', e1, g, E, A⟩ := own_newP w hd wa k cap e hk hcap hc hs
  have q1 : n.toNatClampNeg = k := own_clamp e
  refine ⟨h', a, w', e1, g, E, _, A, by rw [sz_new, q1, List.length_replicate], by rw [List.length_replicate]; omega, fun i hi => ?_⟩
  rw [List.length_replicate] at hi
  have hdf : defaultValue (newarray.typeOf .long) = .long 0 := rfl
  simp [newA, q1, hi, hdf, List.getD_eq_getElem?_getD]
end Own
theorem own_n1 : nar .boolean 1 = 1 := by decide
theorem own_n0 : nar .boolean 0 = 0 := by decide
theorem own_sum {x y : Int32} {a b : Nat} (ex : x.toInt = a) (ey : y.toInt = b) (q : a + b < 2 ^ 31) : (x + y).toInt = ((a + b : Nat) : Int) := by
  rw [Jvm.Kit.i32_add (by omega) (by omega), ex, ey]; omega
theorem own_dif {x y : Int32} {a b : Nat} (ex : x.toInt = a) (ey : y.toInt = b) (q : b ≤ a) (r : a < 2 ^ 31) : (x - y).toInt = ((a - b : Nat) : Int) := by
  rw [Jvm.Kit.i32_sub (by omega) (by omega), ex, ey]; omega
theorem own_two {x : Int32} {a : Nat} (ex : x.toInt = a) (q : 2 * a < 2 ^ 31) : ((2 : Int32) * x).toInt = ((2 * a : Nat) : Int) := by
  have e2 : (2 : Int32).toInt = 2 := by decide
  rw [Jvm.Kit.i32_mul (by rw [e2]; omega) (by rw [e2]; omega), ex, e2]; omega
/-- the list after r turns from turn i on: place at + i gets f i, and so on -/
def own_fill (f : Nat → Int32) (at' : Nat) : Nat → Nat → List Int32 → List Int32
  | 0, _, l => l
  | r + 1, i, l => own_fill f at' r (i + 1) (l.set (at' + i) (f i))
theorem own_fill_len (f : Nat → Int32) (at' : Nat) : ∀ (r i : Nat) (l : List Int32), (own_fill f at' r i l).length = l.length
  | 0, _, _ => rfl
  | r + 1, i, l => by rw [show own_fill f at' (r + 1) i l = own_fill f at' r (i + 1) (l.set (at' + i) (f i)) from rfl, own_fill_len f at' r, List.length_set]
theorem own_fill_get (f : Nat → Int32) (at' : Nat) : ∀ (r i : Nat) (l : List Int32) (j : Nat), j < l.length → (own_fill f at' r i l).getD j 0 = if at' + i ≤ j ∧ j < at' + i + r then f (j - at') else l.getD j 0
  | 0, i, l, j, _ => by rw [if_neg (by omega)]; rfl
  | r + 1, i, l, j, hj => by
    rw [show own_fill f at' (r + 1) i l = own_fill f at' r (i + 1) (l.set (at' + i) (f i)) from rfl, own_fill_get f at' r (i + 1) _ j (by rw [List.length_set]; exact hj), own_setD j hj]
    by_cases h1 : at' + (i + 1) ≤ j ∧ j < at' + (i + 1) + r
    · rw [if_pos h1, if_pos (by omega)]
    · rw [if_neg h1]
      by_cases h2 : at' + i = j
      · rw [if_pos h2, if_pos (by omega)]; congr 1; omega
      · rw [if_neg h2, if_neg (by omega)]
/-- what turn i writes -/
def own_f (D : List Int32) (O : Nat) (b : Int) (i : Nat) : Int32 :=
  if b = 1 then nar .char (D.getD (O + i) 0 &&& (255 : Int32)).toUInt32.toUInt16.toUInt32.toInt32
  else nar .char ((D.getD (O + 2 * i) 0 &&& (255 : Int32)) ||| ((D.getD (O + 2 * i + 1) 0 &&& (255 : Int32)) <<< ((8 : Int32) &&& 31))).toUInt32.toUInt16.toUInt32.toInt32
/-- what the law expects at place J -/
def own_e (D I : List Int32) (A C O : Nat) (b : Int) (J : Nat) : Int32 :=
  if J < A ∨ A + C ≤ J then I.getD J 0
  else if b = 1 then D.getD (O + (J - A)) 0 &&& (255 : Int32)
  else (D.getD (O + 2 * (J - A)) 0 &&& (255 : Int32)) + (256 : Int32) * (D.getD (O + 2 * (J - A) + 1) 0 &&& (255 : Int32))
theorem d2_0 : decode prog_7_method_1_code 0 = .ok (.aload_n 0, 1) := by decide +kernel
theorem d2_1 : decode prog_7_method_1_code 1 = .ok (.invokespecial 1, 3) := by decide +kernel
theorem d2_4 : decode prog_7_method_1_code 4 = .ok (.return_, 1) := by decide +kernel
abbrev b2 : OwnB := (⟨"com/example/orderwire/orderwire/bitmap/PixelStore", "<init>", "()V"⟩, prog_7_method_1_code, 1, none, ({ frames := 1, cells := 0, slots := 0, locals := 12 } : Room))
theorem pn_2 : plainName "com/example/orderwire/orderwire/bitmap/PixelStore" = true := by first | (simp [plainName, overriddenIn]; done) | decide +kernel
theorem pd_2 : parseMethodDescriptor "()V" = some ⟨[], none⟩ := by decide +kernel
theorem ef_2 (o0 : Addr) (m : MethodId) : entryFrame m #[(.ref o0)] 1 = mkF m 0 #[.val (.ref o0)] [] := by first | (simp [entryFrame, mkF, argsToLocals, Value.category, maxLocals]; done) | rfl
theorem rm2 {Z : State} {n0 : Nat} {h : Heap} {a0 : Array Value} (hw : ∀ d ∈ tables_1, d.before a0 Z = true) (o0 : Addr) (hn : n0 ≤ h.size) : ∀ l, own_M l Z n0 b2 #[(.ref o0)] h (fun v h' => v = none ∧ h = h') := by
  intro l
  refine own_enter hn pn_2 (ef_2 o0) (fun K w => ?_)
  replace w : own_W K b2 Z n0 h 0 0 1 #[.val (.ref o0)] [(.ref o0)] := own_aloadN w d2_0 rfl
  replace w : own_W K b2 Z n0 h 0 0 4 #[.val (.ref o0)] [] := own_initO w d2_1 (hw _ (List.mem_of_getElem? (i := 14) rfl)) (hw _ (List.mem_of_getElem? (i := 15) rfl)) (hw _ (List.mem_of_getElem? (i := 16) rfl)) rfl (by decide) (by decide)
  exact own_retV w d2_4 rfl ⟨rfl, rfl⟩ (Nat.zero_le _) (Nat.zero_le _)
theorem d1_0 : decode prog_8_method_1_code 0 = .ok (.aload_n 0, 1) := by decide +kernel
theorem d1_1 : decode prog_8_method_1_code 1 = .ok (.invokespecial 1, 3) := by decide +kernel
theorem d1_4 : decode prog_8_method_1_code 4 = .ok (.aload_n 0, 1) := by decide +kernel
theorem d1_5 : decode prog_8_method_1_code 5 = .ok (.aload_n 1, 1) := by decide +kernel
theorem d1_6 : decode prog_8_method_1_code 6 = .ok (.putfield 7, 3) := by decide +kernel
theorem d1_9 : decode prog_8_method_1_code 9 = .ok (.return_, 1) := by decide +kernel
abbrev b1 : OwnB := (⟨"com/example/orderwire/orderwire/bitmap/PixelStore$Chars", "<init>", "([C)V"⟩, prog_8_method_1_code, 2, none, ({ frames := 2, cells := 0, slots := 0, locals := 24 } : Room))
theorem pn_1 : plainName "com/example/orderwire/orderwire/bitmap/PixelStore$Chars" = true := by first | (simp [plainName, overriddenIn]; done) | decide +kernel
theorem pd_1 : parseMethodDescriptor "([C)V" = some ⟨[(.array .char)], none⟩ := by decide +kernel
theorem ef_1 (o0 : Addr) (o1 : Addr) (m : MethodId) : entryFrame m #[(.ref o0), (.ref o1)] 2 = mkF m 0 #[.val (.ref o0), .val (.ref o1)] [] := by first | (simp [entryFrame, mkF, argsToLocals, Value.category, maxLocals]; done) | rfl
theorem rm1 {Z : State} {n0 : Nat} {h : Heap} {a0 : Array Value} (hw : ∀ d ∈ tables_1, d.before a0 Z = true) (o0 o1 : Addr) (F : Fld Z h o0 "com/example/orderwire/orderwire/bitmap/PixelStore$Chars" "values" "[C" .null) (E : Exa Z h o0 "com/example/orderwire/orderwire/bitmap/PixelStore$Chars") (ga : n0 ≤ o0) (hn : n0 ≤ h.size) : ∀ l, own_M l Z n0 b1 #[(.ref o0), (.ref o1)] h (fun v h' => v = none ∧ Fld Z h' o0 "com/example/orderwire/orderwire/bitmap/PixelStore$Chars" "values" "[C" (.ref o1) ∧ Keep h h' [o0]) := by
  intro l
  refine own_enter hn pn_1 (ef_1 o0 o1) (fun K w => ?_)
  replace w : own_W K b1 Z n0 h 0 0 1 #[.val (.ref o0), .val (.ref o1)] [(.ref o0)] := own_aloadN w d1_0 rfl
  obtain ⟨_, _, ⟨rfl, rfl⟩, w⟩ := own_callN (By := b2) o0 [] w rfl d1_1 rfl rfl (hw _ (List.mem_of_getElem? (i := 9) rfl)) (hw _ (List.mem_of_getElem? (i := 10) rfl)) (hw _ (List.mem_of_getElem? (i := 12) rfl)) (hw _ (List.mem_of_getElem? (i := 13) rfl)) (rm2 hw o0 hn) (by decide) pd_2 rfl rfl (by decide) (Nat.le_of_ble_eq_true rfl) (by decide) (by decide)
  replace w : own_W K b1 Z n0 h 0 0 4 #[.val (.ref o0), .val (.ref o1)] [] := w
  replace w : own_W K b1 Z n0 h 0 0 5 #[.val (.ref o0), .val (.ref o1)] [(.ref o0)] := own_aloadN w d1_4 rfl
  replace w : own_W K b1 Z n0 h 0 0 6 #[.val (.ref o0), .val (.ref o1)] [(.ref o1), (.ref o0)] := own_aloadN w d1_5 rfl
  obtain ⟨h1, w, F1, K1⟩ := own_putF (ty := .array .char) w d1_6 (hw _ (List.mem_of_getElem? (i := 17) rfl)) F E (hw _ (List.mem_of_getElem? (i := 18) rfl)) (hw _ (List.mem_of_getElem? (i := 4) rfl)) rfl (by decide) rfl rfl ga
  exact own_retV w d1_9 rfl ⟨rfl, F1, K1⟩ (Nat.zero_le _) (Nat.zero_le _)
theorem d5_0 : decode prog_8_method_2_code 0 = .ok (.aload_n 0, 1) := by decide +kernel
theorem d5_1 : decode prog_8_method_2_code 1 = .ok (.getfield 7, 3) := by decide +kernel
theorem d5_4 : decode prog_8_method_2_code 4 = .ok (.arraylength, 1) := by decide +kernel
theorem d5_5 : decode prog_8_method_2_code 5 = .ok (.ireturn, 1) := by decide +kernel
abbrev b5 : OwnB := (⟨"com/example/orderwire/orderwire/bitmap/PixelStore$Chars", "length", "()I"⟩, prog_8_method_2_code, 1, (some .int), ({ frames := 0, cells := 0, slots := 0, locals := 0 } : Room))
theorem pn_5 : plainName "com/example/orderwire/orderwire/bitmap/PixelStore$Chars" = true := by first | (simp [plainName, overriddenIn]; done) | decide +kernel
theorem pd_5 : parseMethodDescriptor "()I" = some ⟨[], (some .int)⟩ := by decide +kernel
theorem ef_5 (o0 : Addr) (m : MethodId) : entryFrame m #[(.ref o0)] 1 = mkF m 0 #[.val (.ref o0)] [] := by first | (simp [entryFrame, mkF, argsToLocals, Value.category, maxLocals]; done) | rfl
theorem rm5 {Z : State} {n0 : Nat} {h : Heap} {a0 : Array Value} (hw : ∀ d ∈ tables_1, d.before a0 Z = true) (o0 t : Addr) (l : List Int32) (F : Fld Z h o0 "com/example/orderwire/orderwire/bitmap/PixelStore$Chars" "values" "[C" (.ref t)) (A : own_A .char Z h t l) (N : Int32) (hN : l.length.toInt32 = N) (hn : n0 ≤ h.size) : ∀ l', own_M l' Z n0 b5 #[(.ref o0)] h (fun v h' => v = some (.int N) ∧ h = h') := by
  intro l'
  refine own_enter hn pn_5 (ef_5 o0) (fun K w => ?_)
  replace w : own_W K b5 Z n0 h 0 0 1 #[.val (.ref o0)] [(.ref o0)] := own_aloadN w d5_0 rfl
  replace w : own_W K b5 Z n0 h 0 0 4 #[.val (.ref o0)] [(.ref t)] := own_getF w d5_1 (hw _ (List.mem_of_getElem? (i := 17) rfl)) F
  have w := own_alen w d5_4 A
  rw [hN] at w
  exact own_retI w d5_5 rfl ⟨rfl, rfl⟩ (Nat.zero_le _) (Nat.zero_le _)
theorem d6_0 : decode prog_8_method_3_code 0 = .ok (.aload_n 0, 1) := by decide +kernel
theorem d6_1 : decode prog_8_method_3_code 1 = .ok (.getfield 7, 3) := by decide +kernel
theorem d6_4 : decode prog_8_method_3_code 4 = .ok (.iload_n 1, 1) := by decide +kernel
theorem d6_5 : decode prog_8_method_3_code 5 = .ok (.caload, 1) := by decide +kernel
theorem d6_6 : decode prog_8_method_3_code 6 = .ok (.ireturn, 1) := by decide +kernel
abbrev b6 : OwnB := (⟨"com/example/orderwire/orderwire/bitmap/PixelStore$Chars", "get", "(I)I"⟩, prog_8_method_3_code, 2, (some .int), ({ frames := 0, cells := 0, slots := 0, locals := 0 } : Room))
theorem pn_6 : plainName "com/example/orderwire/orderwire/bitmap/PixelStore$Chars" = true := by first | (simp [plainName, overriddenIn]; done) | decide +kernel
theorem pd_6 : parseMethodDescriptor "(I)I" = some ⟨[.int], (some .int)⟩ := by decide +kernel
theorem ef_6 (o0 : Addr) (p1 : Int32) (m : MethodId) : entryFrame m #[(.ref o0), (.int p1)] 2 = mkF m 0 #[.val (.ref o0), .val (.int p1)] [] := by first | (simp [entryFrame, mkF, argsToLocals, Value.category, maxLocals]; done) | rfl
theorem rm6 {Z : State} {n0 : Nat} {h : Heap} {a0 : Array Value} (hw : ∀ d ∈ tables_1, d.before a0 Z = true) (o0 t : Addr) (p1 : Int32) (l : List Int32) (F : Fld Z h o0 "com/example/orderwire/orderwire/bitmap/PixelStore$Chars" "values" "[C" (.ref t)) (A : own_A .char Z h t l) (J : Nat) (e : p1.toInt = J) (hJ : J < l.length) (hn : n0 ≤ h.size) : ∀ l', own_M l' Z n0 b6 #[(.ref o0), (.int p1)] h (fun v h' => v = some (.int (l.getD J 0)) ∧ h = h') := by
  intro l'
  refine own_enter hn pn_6 (ef_6 o0 p1) (fun K w => ?_)
  replace w : own_W K b6 Z n0 h 0 0 1 #[.val (.ref o0), .val (.int p1)] [(.ref o0)] := own_aloadN w d6_0 rfl
  replace w : own_W K b6 Z n0 h 0 0 4 #[.val (.ref o0), .val (.int p1)] [(.ref t)] := own_getF w d6_1 (hw _ (List.mem_of_getElem? (i := 17) rfl)) F
  replace w : own_W K b6 Z n0 h 0 0 5 #[.val (.ref o0), .val (.int p1)] [(.int p1), (.ref t)] := own_iloadN w d6_4 rfl
  replace w : own_W K b6 Z n0 h 0 0 6 #[.val (.ref o0), .val (.int p1)] [(.int (l.getD J 0))] := own_caload w d6_5 A J e hJ rfl
  exact own_retI w d6_6 rfl ⟨rfl, rfl⟩ (Nat.zero_le _) (Nat.zero_le _)
theorem d7_0 : decode method_3_code 0 = .ok (.iload_n 0, 1) := by decide +kernel
theorem d7_1 : decode method_3_code 1 = .ok (.iload_n 1, 1) := by decide +kernel
theorem d7_2 : decode method_3_code 2 = .ok (.if_icmp .lt 10, 3) := by decide +kernel
theorem d7_5 : decode method_3_code 5 = .ok (.iload_n 0, 1) := by decide +kernel
theorem d7_6 : decode method_3_code 6 = .ok (.iload_n 1, 1) := by decide +kernel
theorem d7_7 : decode method_3_code 7 = .ok (.iload_n 2, 1) := by decide +kernel
theorem d7_8 : decode method_3_code 8 = .ok (.iadd, 1) := by decide +kernel
theorem d7_9 : decode method_3_code 9 = .ok (.if_icmp .lt 8, 3) := by decide +kernel
theorem d7_12 : decode method_3_code 12 = .ok (.aload 6, 2) := by decide +kernel
theorem d7_14 : decode method_3_code 14 = .ok (.iload_n 0, 1) := by decide +kernel
theorem d7_15 : decode method_3_code 15 = .ok (.caload, 1) := by decide +kernel
theorem d7_16 : decode method_3_code 16 = .ok (.ireturn, 1) := by decide +kernel
theorem d7_17 : decode method_3_code 17 = .ok (.iload_n 0, 1) := by decide +kernel
theorem d7_18 : decode method_3_code 18 = .ok (.iload_n 1, 1) := by decide +kernel
theorem d7_19 : decode method_3_code 19 = .ok (.isub, 1) := by decide +kernel
theorem d7_20 : decode method_3_code 20 = .ok (.istore 7, 2) := by decide +kernel
theorem d7_22 : decode method_3_code 22 = .ok (.iload_n 3, 1) := by decide +kernel
theorem d7_23 : decode method_3_code 23 = .ok (.iconst 1, 1) := by decide +kernel
theorem d7_24 : decode method_3_code 24 = .ok (.if_icmp .ne 16, 3) := by decide +kernel
theorem d7_27 : decode method_3_code 27 = .ok (.aload 5, 2) := by decide +kernel
theorem d7_29 : decode method_3_code 29 = .ok (.iload 4, 2) := by decide +kernel
theorem d7_31 : decode method_3_code 31 = .ok (.iload 7, 2) := by decide +kernel
theorem d7_33 : decode method_3_code 33 = .ok (.iadd, 1) := by decide +kernel
theorem d7_34 : decode method_3_code 34 = .ok (.baload, 1) := by decide +kernel
theorem d7_35 : decode method_3_code 35 = .ok (.sipush 255, 3) := by decide +kernel
theorem d7_38 : decode method_3_code 38 = .ok (.iand, 1) := by decide +kernel
theorem d7_39 : decode method_3_code 39 = .ok (.ireturn, 1) := by decide +kernel
theorem d7_40 : decode method_3_code 40 = .ok (.iload 4, 2) := by decide +kernel
theorem d7_42 : decode method_3_code 42 = .ok (.iconst 2, 1) := by decide +kernel
theorem d7_43 : decode method_3_code 43 = .ok (.iload 7, 2) := by decide +kernel
theorem d7_45 : decode method_3_code 45 = .ok (.imul, 1) := by decide +kernel
theorem d7_46 : decode method_3_code 46 = .ok (.iadd, 1) := by decide +kernel
theorem d7_47 : decode method_3_code 47 = .ok (.istore 8, 2) := by decide +kernel
theorem d7_49 : decode method_3_code 49 = .ok (.aload 5, 2) := by decide +kernel
theorem d7_51 : decode method_3_code 51 = .ok (.iload 8, 2) := by decide +kernel
theorem d7_53 : decode method_3_code 53 = .ok (.baload, 1) := by decide +kernel
theorem d7_54 : decode method_3_code 54 = .ok (.sipush 255, 3) := by decide +kernel
theorem d7_57 : decode method_3_code 57 = .ok (.iand, 1) := by decide +kernel
theorem d7_58 : decode method_3_code 58 = .ok (.sipush 256, 3) := by decide +kernel
theorem d7_61 : decode method_3_code 61 = .ok (.aload 5, 2) := by decide +kernel
theorem d7_63 : decode method_3_code 63 = .ok (.iload 8, 2) := by decide +kernel
theorem d7_65 : decode method_3_code 65 = .ok (.iconst 1, 1) := by decide +kernel
theorem d7_66 : decode method_3_code 66 = .ok (.iadd, 1) := by decide +kernel
theorem d7_67 : decode method_3_code 67 = .ok (.baload, 1) := by decide +kernel
theorem d7_68 : decode method_3_code 68 = .ok (.sipush 255, 3) := by decide +kernel
theorem d7_71 : decode method_3_code 71 = .ok (.iand, 1) := by decide +kernel
theorem d7_72 : decode method_3_code 72 = .ok (.imul, 1) := by decide +kernel
theorem d7_73 : decode method_3_code 73 = .ok (.iadd, 1) := by decide +kernel
theorem d7_74 : decode method_3_code 74 = .ok (.ireturn, 1) := by decide +kernel
abbrev b7 : OwnB := (⟨"com/example/orderwire/orderwire/bitmap/CharsReadLittleEndianPinLaw", "expected", "(IIIII[B[C)I"⟩, method_3_code, 9, (some .int), ({ frames := 0, cells := 0, slots := 0, locals := 0 } : Room))
theorem pn_7 : plainName "com/example/orderwire/orderwire/bitmap/CharsReadLittleEndianPinLaw" = true := by first | (simp [plainName, overriddenIn]; done) | decide +kernel
theorem pd_7 : parseMethodDescriptor "(IIIII[B[C)I" = some ⟨[.int, .int, .int, .int, .int, (.array .byte), (.array .char)], (some .int)⟩ := by decide +kernel
theorem ef_7 (p0 : Int32) (p1 : Int32) (p2 : Int32) (p3 : Int32) (p4 : Int32) (o5 : Addr) (o6 : Addr) (m : MethodId) : entryFrame m #[(.int p0), (.int p1), (.int p2), (.int p3), (.int p4), (.ref o5), (.ref o6)] 9 = mkF m 0 #[.val (.int p0), .val (.int p1), .val (.int p2), .val (.int p3), .val (.int p4), .val (.ref o5), .val (.ref o6), .unset, .unset] [] := by first | (simp [entryFrame, mkF, argsToLocals, Value.category, maxLocals]; done) | rfl
set_option maxHeartbeats 4000000 in
theorem rm7 {Z : State} {n0 : Nat} {h : Heap} {a0 : Array Value} (hw : ∀ d ∈ tables_1, d.before a0 Z = true) (p0 p1 p2 p3 p4 : Int32) (o5 o6 : Addr) (D I : List Int32) (AD : own_A .byte Z h o5 D) (AI : own_A .char Z h o6 I) (J A C O : Nat) (e0 : p0.toInt = J) (e1 : p1.toInt = A) (e2 : p2.toInt = C) (e4 : p4.toInt = O) (hb : p3.toInt = 1 ∨ p3.toInt = 2) (hJ : J < I.length) (hI : I.length = 4) (hD : D.length = 8) (hA : A + C ≤ 4) (hO1 : p3.toInt = 1 → O + C ≤ 8) (hO2 : p3.toInt = 2 → O + 2 * C ≤ 8) (hn : n0 ≤ h.size) : ∀ l', own_M l' Z n0 b7 #[(.int p0), (.int p1), (.int p2), (.int p3), (.int p4), (.ref o5), (.ref o6)] h (fun v h' => v = some (.int (own_e D I A C O p3.toInt J)) ∧ h = h') := by
  intro l'
  refine own_enter hn pn_7 (ef_7 p0 p1 p2 p3 p4 o5 o6) (fun K w => ?_)
  replace w : own_W K b7 Z n0 h 0 0 1 #[.val (.int p0), .val (.int p1), .val (.int p2), .val (.int p3), .val (.int p4), .val (.ref o5), .val (.ref o6), .unset, .unset] [(.int p0)] := own_iloadN w d7_0 rfl
  replace w : own_W K b7 Z n0 h 0 0 2 #[.val (.int p0), .val (.int p1), .val (.int p2), .val (.int p3), .val (.int p4), .val (.ref o5), .val (.ref o6), .unset, .unset] [(.int p1), (.int p0)] := own_iloadN w d7_1 rfl
  by_cases h1 : p0.toInt < p1.toInt
  · replace w : own_W K b7 Z n0 h 0 0 12 #[.val (.int p0), .val (.int p1), .val (.int p2), .val (.int p3), .val (.int p4), .val (.ref o5), .val (.ref o6), .unset, .unset] [] := own_icmpY (a := p0.toInt) (b := p1.toInt) w d7_2 rfl rfl h1 (by decide) (by decide)
    replace w : own_W K b7 Z n0 h 0 0 14 #[.val (.int p0), .val (.int p1), .val (.int p2), .val (.int p3), .val (.int p4), .val (.ref o5), .val (.ref o6), .unset, .unset] [(.ref o6)] := own_aload w d7_12 rfl
    replace w : own_W K b7 Z n0 h 0 0 15 #[.val (.int p0), .val (.int p1), .val (.int p2), .val (.int p3), .val (.int p4), .val (.ref o5), .val (.ref o6), .unset, .unset] [(.int p0), (.ref o6)] := own_iloadN w d7_14 rfl
    replace w : own_W K b7 Z n0 h 0 0 16 #[.val (.int p0), .val (.int p1), .val (.int p2), .val (.int p3), .val (.int p4), .val (.ref o5), .val (.ref o6), .unset, .unset] [(.int (I.getD J 0))] := own_caload w d7_15 AI J e0 hJ rfl
    rw [show own_e D I A C O p3.toInt J = I.getD J 0 from if_pos (by omega)]
    exact own_retI w d7_16 rfl ⟨rfl, rfl⟩ (Nat.zero_le _) (Nat.zero_le _)
  replace w : own_W K b7 Z n0 h 0 0 5 #[.val (.int p0), .val (.int p1), .val (.int p2), .val (.int p3), .val (.int p4), .val (.ref o5), .val (.ref o6), .unset, .unset] [] := own_icmpN (a := p0.toInt) (b := p1.toInt) w d7_2 rfl rfl h1
  replace w : own_W K b7 Z n0 h 0 0 6 #[.val (.int p0), .val (.int p1), .val (.int p2), .val (.int p3), .val (.int p4), .val (.ref o5), .val (.ref o6), .unset, .unset] [(.int p0)] := own_iloadN w d7_5 rfl
  replace w : own_W K b7 Z n0 h 0 0 7 #[.val (.int p0), .val (.int p1), .val (.int p2), .val (.int p3), .val (.int p4), .val (.ref o5), .val (.ref o6), .unset, .unset] [(.int p1), (.int p0)] := own_iloadN w d7_6 rfl
  replace w : own_W K b7 Z n0 h 0 0 8 #[.val (.int p0), .val (.int p1), .val (.int p2), .val (.int p3), .val (.int p4), .val (.ref o5), .val (.ref o6), .unset, .unset] [(.int p2), (.int p1), (.int p0)] := own_iloadN w d7_7 rfl
  replace w : own_W K b7 Z n0 h 0 0 9 #[.val (.int p0), .val (.int p1), .val (.int p2), .val (.int p3), .val (.int p4), .val (.ref o5), .val (.ref o6), .unset, .unset] [(.int (p1 + p2)), (.int p0)] := own_iadd w d7_8
  have e5 := own_sum e1 e2 (by omega)
  by_cases h2 : p0.toInt < (p1 + p2).toInt
  · replace w : own_W K b7 Z n0 h 0 0 17 #[.val (.int p0), .val (.int p1), .val (.int p2), .val (.int p3), .val (.int p4), .val (.ref o5), .val (.ref o6), .unset, .unset] [] := own_icmpY (a := p0.toInt) (b := (p1 + p2).toInt) w d7_9 rfl rfl h2 (by decide) (by decide)
    have hna : ¬ (J < A ∨ A + C ≤ J) := by omega
    have e6 := own_dif e0 e1 (by omega) (by omega)
    replace w : own_W K b7 Z n0 h 0 0 18 #[.val (.int p0), .val (.int p1), .val (.int p2), .val (.int p3), .val (.int p4), .val (.ref o5), .val (.ref o6), .unset, .unset] [(.int p0)] := own_iloadN w d7_17 rfl
    replace w : own_W K b7 Z n0 h 0 0 19 #[.val (.int p0), .val (.int p1), .val (.int p2), .val (.int p3), .val (.int p4), .val (.ref o5), .val (.ref o6), .unset, .unset] [(.int p1), (.int p0)] := own_iloadN w d7_18 rfl
    replace w : own_W K b7 Z n0 h 0 0 20 #[.val (.int p0), .val (.int p1), .val (.int p2), .val (.int p3), .val (.int p4), .val (.ref o5), .val (.ref o6), .unset, .unset] [(.int (p0 - p1))] := own_isub w d7_19
    replace w : own_W K b7 Z n0 h 0 0 22 #[.val (.int p0), .val (.int p1), .val (.int p2), .val (.int p3), .val (.int p4), .val (.ref o5), .val (.ref o6), .val (.int (p0 - p1)), .unset] [] := own_istore w d7_20 rfl
    replace w : own_W K b7 Z n0 h 0 0 23 #[.val (.int p0), .val (.int p1), .val (.int p2), .val (.int p3), .val (.int p4), .val (.ref o5), .val (.ref o6), .val (.int (p0 - p1)), .unset] [(.int p3)] := own_iloadN w d7_22 rfl
    replace w : own_W K b7 Z n0 h 0 0 24 #[.val (.int p0), .val (.int p1), .val (.int p2), .val (.int p3), .val (.int p4), .val (.ref o5), .val (.ref o6), .val (.int (p0 - p1)), .unset] [(.int (1 : Int32)), (.int p3)] := own_iconst w d7_23 rfl
    by_cases h3 : p3.toInt = 1
    · replace w : own_W K b7 Z n0 h 0 0 27 #[.val (.int p0), .val (.int p1), .val (.int p2), .val (.int p3), .val (.int p4), .val (.ref o5), .val (.ref o6), .val (.int (p0 - p1)), .unset] [] := own_icmpN (a := p3.toInt) (b := 1) w d7_24 rfl (by decide) h3
      have := hO1 h3
      replace w : own_W K b7 Z n0 h 0 0 29 #[.val (.int p0), .val (.int p1), .val (.int p2), .val (.int p3), .val (.int p4), .val (.ref o5), .val (.ref o6), .val (.int (p0 - p1)), .unset] [(.ref o5)] := own_aload w d7_27 rfl
      replace w : own_W K b7 Z n0 h 0 0 31 #[.val (.int p0), .val (.int p1), .val (.int p2), .val (.int p3), .val (.int p4), .val (.ref o5), .val (.ref o6), .val (.int (p0 - p1)), .unset] [(.int p4), (.ref o5)] := own_iload w d7_29 rfl
      replace w : own_W K b7 Z n0 h 0 0 33 #[.val (.int p0), .val (.int p1), .val (.int p2), .val (.int p3), .val (.int p4), .val (.ref o5), .val (.ref o6), .val (.int (p0 - p1)), .unset] [(.int (p0 - p1)), (.int p4), (.ref o5)] := own_iload w d7_31 rfl
      replace w : own_W K b7 Z n0 h 0 0 34 #[.val (.int p0), .val (.int p1), .val (.int p2), .val (.int p3), .val (.int p4), .val (.ref o5), .val (.ref o6), .val (.int (p0 - p1)), .unset] [(.int (p4 + (p0 - p1))), (.ref o5)] := own_iadd w d7_33
      have e7 := own_sum e4 e6 (by omega)
      replace w : own_W K b7 Z n0 h 0 0 35 #[.val (.int p0), .val (.int p1), .val (.int p2), .val (.int p3), .val (.int p4), .val (.ref o5), .val (.ref o6), .val (.int (p0 - p1)), .unset] [(.int (D.getD (O + (J - A)) 0))] := own_baload w d7_34 AD (O + (J - A)) e7 (by omega) rfl
      replace w : own_W K b7 Z n0 h 0 0 38 #[.val (.int p0), .val (.int p1), .val (.int p2), .val (.int p3), .val (.int p4), .val (.ref o5), .val (.ref o6), .val (.int (p0 - p1)), .unset] [(.int (255 : Int32)), (.int (D.getD (O + (J - A)) 0))] := own_sipush w d7_35 rfl
      replace w : own_W K b7 Z n0 h 0 0 39 #[.val (.int p0), .val (.int p1), .val (.int p2), .val (.int p3), .val (.int p4), .val (.ref o5), .val (.ref o6), .val (.int (p0 - p1)), .unset] [(.int ((D.getD (O + (J - A)) 0) &&& (255 : Int32)))] := own_iand w d7_38
      rw [show own_e D I A C O p3.toInt J = D.getD (O + (J - A)) 0 &&& (255 : Int32) from (if_neg hna).trans (if_pos h3)]
      exact own_retI w d7_39 rfl ⟨rfl, rfl⟩ (Nat.zero_le _) (Nat.zero_le _)
    · replace w : own_W K b7 Z n0 h 0 0 40 #[.val (.int p0), .val (.int p1), .val (.int p2), .val (.int p3), .val (.int p4), .val (.ref o5), .val (.ref o6), .val (.int (p0 - p1)), .unset] [] := own_icmpY (a := p3.toInt) (b := 1) w d7_24 rfl (by decide) h3 (by decide) (by decide)
      have := hO2 (by omega)
      replace w : own_W K b7 Z n0 h 0 0 42 #[.val (.int p0), .val (.int p1), .val (.int p2), .val (.int p3), .val (.int p4), .val (.ref o5), .val (.ref o6), .val (.int (p0 - p1)), .unset] [(.int p4)] := own_iload w d7_40 rfl
      replace w : own_W K b7 Z n0 h 0 0 43 #[.val (.int p0), .val (.int p1), .val (.int p2), .val (.int p3), .val (.int p4), .val (.ref o5), .val (.ref o6), .val (.int (p0 - p1)), .unset] [(.int (2 : Int32)), (.int p4)] := own_iconst w d7_42 rfl
      replace w : own_W K b7 Z n0 h 0 0 45 #[.val (.int p0), .val (.int p1), .val (.int p2), .val (.int p3), .val (.int p4), .val (.ref o5), .val (.ref o6), .val (.int (p0 - p1)), .unset] [(.int (p0 - p1)), (.int (2 : Int32)), (.int p4)] := own_iload w d7_43 rfl
      replace w : own_W K b7 Z n0 h 0 0 46 #[.val (.int p0), .val (.int p1), .val (.int p2), .val (.int p3), .val (.int p4), .val (.ref o5), .val (.ref o6), .val (.int (p0 - p1)), .unset] [(.int ((2 : Int32) * (p0 - p1))), (.int p4)] := own_imul w d7_45
      replace w : own_W K b7 Z n0 h 0 0 47 #[.val (.int p0), .val (.int p1), .val (.int p2), .val (.int p3), .val (.int p4), .val (.ref o5), .val (.ref o6), .val (.int (p0 - p1)), .unset] [(.int (p4 + ((2 : Int32) * (p0 - p1))))] := own_iadd w d7_46
      replace w : own_W K b7 Z n0 h 0 0 49 #[.val (.int p0), .val (.int p1), .val (.int p2), .val (.int p3), .val (.int p4), .val (.ref o5), .val (.ref o6), .val (.int (p0 - p1)), .val (.int (p4 + ((2 : Int32) * (p0 - p1))))] [] := own_istore w d7_47 rfl
      replace w : own_W K b7 Z n0 h 0 0 51 #[.val (.int p0), .val (.int p1), .val (.int p2), .val (.int p3), .val (.int p4), .val (.ref o5), .val (.ref o6), .val (.int (p0 - p1)), .val (.int (p4 + ((2 : Int32) * (p0 - p1))))] [(.ref o5)] := own_aload w d7_49 rfl
      replace w : own_W K b7 Z n0 h 0 0 53 #[.val (.int p0), .val (.int p1), .val (.int p2), .val (.int p3), .val (.int p4), .val (.ref o5), .val (.ref o6), .val (.int (p0 - p1)), .val (.int (p4 + ((2 : Int32) * (p0 - p1))))] [(.int (p4 + ((2 : Int32) * (p0 - p1)))), (.ref o5)] := own_iload w d7_51 rfl
      have e7 := own_sum e4 (own_two e6 (by omega)) (by omega)
      replace w : own_W K b7 Z n0 h 0 0 54 #[.val (.int p0), .val (.int p1), .val (.int p2), .val (.int p3), .val (.int p4), .val (.ref o5), .val (.ref o6), .val (.int (p0 - p1)), .val (.int (p4 + ((2 : Int32) * (p0 - p1))))] [(.int (D.getD (O + 2 * (J - A)) 0))] := own_baload w d7_53 AD (O + 2 * (J - A)) e7 (by omega) rfl
      replace w : own_W K b7 Z n0 h 0 0 57 #[.val (.int p0), .val (.int p1), .val (.int p2), .val (.int p3), .val (.int p4), .val (.ref o5), .val (.ref o6), .val (.int (p0 - p1)), .val (.int (p4 + ((2 : Int32) * (p0 - p1))))] [(.int (255 : Int32)), (.int (D.getD (O + 2 * (J - A)) 0))] := own_sipush w d7_54 rfl
      replace w : own_W K b7 Z n0 h 0 0 58 #[.val (.int p0), .val (.int p1), .val (.int p2), .val (.int p3), .val (.int p4), .val (.ref o5), .val (.ref o6), .val (.int (p0 - p1)), .val (.int (p4 + ((2 : Int32) * (p0 - p1))))] [(.int ((D.getD (O + 2 * (J - A)) 0) &&& (255 : Int32)))] := own_iand w d7_57
      replace w : own_W K b7 Z n0 h 0 0 61 #[.val (.int p0), .val (.int p1), .val (.int p2), .val (.int p3), .val (.int p4), .val (.ref o5), .val (.ref o6), .val (.int (p0 - p1)), .val (.int (p4 + ((2 : Int32) * (p0 - p1))))] [(.int (256 : Int32)), (.int ((D.getD (O + 2 * (J - A)) 0) &&& (255 : Int32)))] := own_sipush w d7_58 rfl
      replace w : own_W K b7 Z n0 h 0 0 63 #[.val (.int p0), .val (.int p1), .val (.int p2), .val (.int p3), .val (.int p4), .val (.ref o5), .val (.ref o6), .val (.int (p0 - p1)), .val (.int (p4 + ((2 : Int32) * (p0 - p1))))] [(.ref o5), (.int (256 : Int32)), (.int ((D.getD (O + 2 * (J - A)) 0) &&& (255 : Int32)))] := own_aload w d7_61 rfl
      replace w : own_W K b7 Z n0 h 0 0 65 #[.val (.int p0), .val (.int p1), .val (.int p2), .val (.int p3), .val (.int p4), .val (.ref o5), .val (.ref o6), .val (.int (p0 - p1)), .val (.int (p4 + ((2 : Int32) * (p0 - p1))))] [(.int (p4 + ((2 : Int32) * (p0 - p1)))), (.ref o5), (.int (256 : Int32)), (.int ((D.getD (O + 2 * (J - A)) 0) &&& (255 : Int32)))] := own_iload w d7_63 rfl
      replace w : own_W K b7 Z n0 h 0 0 66 #[.val (.int p0), .val (.int p1), .val (.int p2), .val (.int p3), .val (.int p4), .val (.ref o5), .val (.ref o6), .val (.int (p0 - p1)), .val (.int (p4 + ((2 : Int32) * (p0 - p1))))] [(.int (1 : Int32)), (.int (p4 + ((2 : Int32) * (p0 - p1)))), (.ref o5), (.int (256 : Int32)), (.int ((D.getD (O + 2 * (J - A)) 0) &&& (255 : Int32)))] := own_iconst w d7_65 rfl
      replace w : own_W K b7 Z n0 h 0 0 67 #[.val (.int p0), .val (.int p1), .val (.int p2), .val (.int p3), .val (.int p4), .val (.ref o5), .val (.ref o6), .val (.int (p0 - p1)), .val (.int (p4 + ((2 : Int32) * (p0 - p1))))] [(.int ((p4 + ((2 : Int32) * (p0 - p1))) + (1 : Int32))), (.ref o5), (.int (256 : Int32)), (.int ((D.getD (O + 2 * (J - A)) 0) &&& (255 : Int32)))] := own_iadd w d7_66
      have e8 := own_sum e7 (show (1 : Int32).toInt = ((1 : Nat) : Int) by decide) (by omega)
      replace w : own_W K b7 Z n0 h 0 0 68 #[.val (.int p0), .val (.int p1), .val (.int p2), .val (.int p3), .val (.int p4), .val (.ref o5), .val (.ref o6), .val (.int (p0 - p1)), .val (.int (p4 + ((2 : Int32) * (p0 - p1))))] [(.int (D.getD (O + 2 * (J - A) + 1) 0)), (.int (256 : Int32)), (.int ((D.getD (O + 2 * (J - A)) 0) &&& (255 : Int32)))] := own_baload w d7_67 AD (O + 2 * (J - A) + 1) e8 (by omega) rfl
      replace w : own_W K b7 Z n0 h 0 0 71 #[.val (.int p0), .val (.int p1), .val (.int p2), .val (.int p3), .val (.int p4), .val (.ref o5), .val (.ref o6), .val (.int (p0 - p1)), .val (.int (p4 + ((2 : Int32) * (p0 - p1))))] [(.int (255 : Int32)), (.int (D.getD (O + 2 * (J - A) + 1) 0)), (.int (256 : Int32)), (.int ((D.getD (O + 2 * (J - A)) 0) &&& (255 : Int32)))] := own_sipush w d7_68 rfl
      replace w : own_W K b7 Z n0 h 0 0 72 #[.val (.int p0), .val (.int p1), .val (.int p2), .val (.int p3), .val (.int p4), .val (.ref o5), .val (.ref o6), .val (.int (p0 - p1)), .val (.int (p4 + ((2 : Int32) * (p0 - p1))))] [(.int ((D.getD (O + 2 * (J - A) + 1) 0) &&& (255 : Int32))), (.int (256 : Int32)), (.int ((D.getD (O + 2 * (J - A)) 0) &&& (255 : Int32)))] := own_iand w d7_71
      replace w : own_W K b7 Z n0 h 0 0 73 #[.val (.int p0), .val (.int p1), .val (.int p2), .val (.int p3), .val (.int p4), .val (.ref o5), .val (.ref o6), .val (.int (p0 - p1)), .val (.int (p4 + ((2 : Int32) * (p0 - p1))))] [(.int ((256 : Int32) * ((D.getD (O + 2 * (J - A) + 1) 0) &&& (255 : Int32)))), (.int ((D.getD (O + 2 * (J - A)) 0) &&& (255 : Int32)))] := own_imul w d7_72
      replace w : own_W K b7 Z n0 h 0 0 74 #[.val (.int p0), .val (.int p1), .val (.int p2), .val (.int p3), .val (.int p4), .val (.ref o5), .val (.ref o6), .val (.int (p0 - p1)), .val (.int (p4 + ((2 : Int32) * (p0 - p1))))] [(.int (((D.getD (O + 2 * (J - A)) 0) &&& (255 : Int32)) + ((256 : Int32) * ((D.getD (O + 2 * (J - A) + 1) 0) &&& (255 : Int32)))))] := own_iadd w d7_73
      rw [show own_e D I A C O p3.toInt J = (D.getD (O + 2 * (J - A)) 0 &&& (255 : Int32)) + (256 : Int32) * (D.getD (O + 2 * (J - A) + 1) 0 &&& (255 : Int32)) from (if_neg hna).trans (if_neg h3)]
      exact own_retI w d7_74 rfl ⟨rfl, rfl⟩ (Nat.zero_le _) (Nat.zero_le _)
  · replace w : own_W K b7 Z n0 h 0 0 12 #[.val (.int p0), .val (.int p1), .val (.int p2), .val (.int p3), .val (.int p4), .val (.ref o5), .val (.ref o6), .unset, .unset] [] := own_icmpN (a := p0.toInt) (b := (p1 + p2).toInt) w d7_9 rfl rfl h2
    replace w : own_W K b7 Z n0 h 0 0 14 #[.val (.int p0), .val (.int p1), .val (.int p2), .val (.int p3), .val (.int p4), .val (.ref o5), .val (.ref o6), .unset, .unset] [(.ref o6)] := own_aload w d7_12 rfl
    replace w : own_W K b7 Z n0 h 0 0 15 #[.val (.int p0), .val (.int p1), .val (.int p2), .val (.int p3), .val (.int p4), .val (.ref o5), .val (.ref o6), .unset, .unset] [(.int p0), (.ref o6)] := own_iloadN w d7_14 rfl
    replace w : own_W K b7 Z n0 h 0 0 16 #[.val (.int p0), .val (.int p1), .val (.int p2), .val (.int p3), .val (.int p4), .val (.ref o5), .val (.ref o6), .unset, .unset] [(.int (I.getD J 0))] := own_caload w d7_15 AI J e0 hJ rfl
    rw [show own_e D I A C O p3.toInt J = I.getD J 0 from if_pos (by omega)]
    exact own_retI w d7_16 rfl ⟨rfl, rfl⟩ (Nat.zero_le _) (Nat.zero_le _)
theorem d4_0 : decode prog_8_method_11_code 0 = .ok (.iload 5, 2) := by decide +kernel
theorem d4_2 : decode prog_8_method_11_code 2 = .ok (.iconst 1, 1) := by decide +kernel
theorem d4_3 : decode prog_8_method_11_code 3 = .ok (.if_icmp .ne 42, 3) := by decide +kernel
theorem d4_6 : decode prog_8_method_11_code 6 = .ok (.iconst 0, 1) := by decide +kernel
theorem d4_7 : decode prog_8_method_11_code 7 = .ok (.istore 6, 2) := by decide +kernel
theorem d4_9 : decode prog_8_method_11_code 9 = .ok (.iload 6, 2) := by decide +kernel
theorem d4_11 : decode prog_8_method_11_code 11 = .ok (.iload 4, 2) := by decide +kernel
theorem d4_13 : decode prog_8_method_11_code 13 = .ok (.if_icmp .ge 29, 3) := by decide +kernel
theorem d4_16 : decode prog_8_method_11_code 16 = .ok (.aload_n 0, 1) := by decide +kernel
theorem d4_17 : decode prog_8_method_11_code 17 = .ok (.getfield 7, 3) := by decide +kernel
theorem d4_20 : decode prog_8_method_11_code 20 = .ok (.iload_n 1, 1) := by decide +kernel
theorem d4_21 : decode prog_8_method_11_code 21 = .ok (.iload 6, 2) := by decide +kernel
theorem d4_23 : decode prog_8_method_11_code 23 = .ok (.iadd, 1) := by decide +kernel
theorem d4_24 : decode prog_8_method_11_code 24 = .ok (.aload_n 2, 1) := by decide +kernel
theorem d4_25 : decode prog_8_method_11_code 25 = .ok (.iload_n 3, 1) := by decide +kernel
theorem d4_26 : decode prog_8_method_11_code 26 = .ok (.iload 6, 2) := by decide +kernel
theorem d4_28 : decode prog_8_method_11_code 28 = .ok (.iadd, 1) := by decide +kernel
theorem d4_29 : decode prog_8_method_11_code 29 = .ok (.baload, 1) := by decide +kernel
theorem d4_30 : decode prog_8_method_11_code 30 = .ok (.sipush 255, 3) := by decide +kernel
theorem d4_33 : decode prog_8_method_11_code 33 = .ok (.iand, 1) := by decide +kernel
theorem d4_34 : decode prog_8_method_11_code 34 = .ok (.i2c, 1) := by decide +kernel
theorem d4_35 : decode prog_8_method_11_code 35 = .ok (.castore, 1) := by decide +kernel
theorem d4_36 : decode prog_8_method_11_code 36 = .ok (.iinc 6 1, 3) := by decide +kernel
theorem d4_39 : decode prog_8_method_11_code 39 = .ok (.goto (-30), 3) := by decide +kernel
theorem d4_42 : decode prog_8_method_11_code 42 = .ok (.goto 57, 3) := by decide +kernel
theorem d4_45 : decode prog_8_method_11_code 45 = .ok (.iconst 0, 1) := by decide +kernel
theorem d4_46 : decode prog_8_method_11_code 46 = .ok (.istore 6, 2) := by decide +kernel
theorem d4_48 : decode prog_8_method_11_code 48 = .ok (.iload_n 3, 1) := by decide +kernel
theorem d4_49 : decode prog_8_method_11_code 49 = .ok (.istore 7, 2) := by decide +kernel
theorem d4_51 : decode prog_8_method_11_code 51 = .ok (.iload 6, 2) := by decide +kernel
theorem d4_53 : decode prog_8_method_11_code 53 = .ok (.iload 4, 2) := by decide +kernel
theorem d4_55 : decode prog_8_method_11_code 55 = .ok (.if_icmp .ge 44, 3) := by decide +kernel
theorem d4_58 : decode prog_8_method_11_code 58 = .ok (.aload_n 0, 1) := by decide +kernel
theorem d4_59 : decode prog_8_method_11_code 59 = .ok (.getfield 7, 3) := by decide +kernel
theorem d4_62 : decode prog_8_method_11_code 62 = .ok (.iload_n 1, 1) := by decide +kernel
theorem d4_63 : decode prog_8_method_11_code 63 = .ok (.iload 6, 2) := by decide +kernel
theorem d4_65 : decode prog_8_method_11_code 65 = .ok (.iadd, 1) := by decide +kernel
theorem d4_66 : decode prog_8_method_11_code 66 = .ok (.aload_n 2, 1) := by decide +kernel
theorem d4_67 : decode prog_8_method_11_code 67 = .ok (.iload 7, 2) := by decide +kernel
theorem d4_69 : decode prog_8_method_11_code 69 = .ok (.baload, 1) := by decide +kernel
theorem d4_70 : decode prog_8_method_11_code 70 = .ok (.sipush 255, 3) := by decide +kernel
theorem d4_73 : decode prog_8_method_11_code 73 = .ok (.iand, 1) := by decide +kernel
theorem d4_74 : decode prog_8_method_11_code 74 = .ok (.aload_n 2, 1) := by decide +kernel
theorem d4_75 : decode prog_8_method_11_code 75 = .ok (.iload 7, 2) := by decide +kernel
theorem d4_77 : decode prog_8_method_11_code 77 = .ok (.iconst 1, 1) := by decide +kernel
theorem d4_78 : decode prog_8_method_11_code 78 = .ok (.iadd, 1) := by decide +kernel
theorem d4_79 : decode prog_8_method_11_code 79 = .ok (.baload, 1) := by decide +kernel
theorem d4_80 : decode prog_8_method_11_code 80 = .ok (.sipush 255, 3) := by decide +kernel
theorem d4_83 : decode prog_8_method_11_code 83 = .ok (.iand, 1) := by decide +kernel
theorem d4_84 : decode prog_8_method_11_code 84 = .ok (.bipush 8, 2) := by decide +kernel
theorem d4_86 : decode prog_8_method_11_code 86 = .ok (.ishl, 1) := by decide +kernel
theorem d4_87 : decode prog_8_method_11_code 87 = .ok (.ior, 1) := by decide +kernel
theorem d4_88 : decode prog_8_method_11_code 88 = .ok (.i2c, 1) := by decide +kernel
theorem d4_89 : decode prog_8_method_11_code 89 = .ok (.castore, 1) := by decide +kernel
theorem d4_90 : decode prog_8_method_11_code 90 = .ok (.iinc 6 1, 3) := by decide +kernel
theorem d4_93 : decode prog_8_method_11_code 93 = .ok (.iinc 7 2, 3) := by decide +kernel
theorem d4_96 : decode prog_8_method_11_code 96 = .ok (.goto (-45), 3) := by decide +kernel
theorem d4_99 : decode prog_8_method_11_code 99 = .ok (.return_, 1) := by decide +kernel
abbrev b4 : OwnB := (⟨"com/example/orderwire/orderwire/bitmap/PixelStore$Chars", "readLittleEndian", "(I[BIII)V"⟩, prog_8_method_11_code, 8, none, ({ frames := 0, cells := 0, slots := 0, locals := 0 } : Room))
theorem pn_4 : plainName "com/example/orderwire/orderwire/bitmap/PixelStore$Chars" = true := by first | (simp [plainName, overriddenIn]; done) | decide +kernel
theorem pd_4 : parseMethodDescriptor "(I[BIII)V" = some ⟨[.int, (.array .byte), .int, .int, .int], none⟩ := by decide +kernel
theorem ef_4 (o0 : Addr) (p1 : Int32) (o2 : Addr) (p3 : Int32) (p4 : Int32) (p5 : Int32) (m : MethodId) : entryFrame m #[(.ref o0), (.int p1), (.ref o2), (.int p3), (.int p4), (.int p5)] 8 = mkF m 0 #[.val (.ref o0), .val (.int p1), .val (.ref o2), .val (.int p3), .val (.int p4), .val (.int p5), .unset, .unset] [] := by first | (simp [entryFrame, mkF, argsToLocals, Value.category, maxLocals]; done) | rfl
set_option maxHeartbeats 4000000 in
theorem own_l1 {K : OwnK} {Z : State} {n0 : Nat} {a0 : Array Value} (hw : ∀ d ∈ tables_1, d.before a0 Z = true) (o0 t o2 : Addr) (p1 p3 p4 p5 : Int32) (D : List Int32) (A C O : Nat) (e1 : p1.toInt = A) (e3 : p3.toInt = O) (e4 : p4.toInt = C) (hD : D.length = 8) (hA : A + C ≤ 4) (ga : n0 ≤ t) (n1 : o0 ≠ t) (n2 : o2 ≠ t) (hb : p5.toInt = 1) (hO : O + C ≤ 8) : ∀ (r i : Nat) (v : Int32) (h : Heap) (l : List Int32), v.toInt = i → i + r = C → l.length = 4 → Fld Z h o0 "com/example/orderwire/orderwire/bitmap/PixelStore$Chars" "values" "[C" (.ref t) → own_A .char Z h t l → own_A .byte Z h o2 D → own_W K b4 Z n0 h 0 0 9 #[.val (.ref o0), .val (.int p1), .val (.ref o2), .val (.int p3), .val (.int p4), .val (.int p5), .val (.int v), .unset] [] → own_G K n0 0 0 (fun u h' => u = none ∧ Keep h h' [t] ∧ own_A .char Z h' t (own_fill (own_f D O p5.toInt) A r i l)) := by
  intro r
  induction r with
  | zero =>
    intro i v h l e hr hl F AL AD w
    replace w : own_W K b4 Z n0 h 0 0 11 #[.val (.ref o0), .val (.int p1), .val (.ref o2), .val (.int p3), .val (.int p4), .val (.int p5), .val (.int v), .unset] [(.int v)] := own_iload w d4_9 rfl
    replace w : own_W K b4 Z n0 h 0 0 13 #[.val (.ref o0), .val (.int p1), .val (.ref o2), .val (.int p3), .val (.int p4), .val (.int p5), .val (.int v), .unset] [(.int p4), (.int v)] := own_iload w d4_11 rfl
    replace w : own_W K b4 Z n0 h 0 0 42 #[.val (.ref o0), .val (.int p1), .val (.ref o2), .val (.int p3), .val (.int p4), .val (.int p5), .val (.int v), .unset] [] := own_icmpY (a := v.toInt) (b := p4.toInt) w d4_13 rfl rfl (by unfold own_cd; rw [e, e4]; omega) (by decide) (by decide)
    replace w : own_W K b4 Z n0 h 0 0 99 #[.val (.ref o0), .val (.int p1), .val (.ref o2), .val (.int p3), .val (.int p4), .val (.int p5), .val (.int v), .unset] [] := own_goto w d4_42 (by decide) (by decide)
    exact own_retV w d4_99 rfl ⟨rfl, Keep.refl _ _, AL⟩ (Nat.zero_le _) (Nat.zero_le _)
  | succ r ih =>
    intro i v h l e hr hl F AL AD w
    replace w : own_W K b4 Z n0 h 0 0 11 #[.val (.ref o0), .val (.int p1), .val (.ref o2), .val (.int p3), .val (.int p4), .val (.int p5), .val (.int v), .unset] [(.int v)] := own_iload w d4_9 rfl
    replace w : own_W K b4 Z n0 h 0 0 13 #[.val (.ref o0), .val (.int p1), .val (.ref o2), .val (.int p3), .val (.int p4), .val (.int p5), .val (.int v), .unset] [(.int p4), (.int v)] := own_iload w d4_11 rfl
    replace w : own_W K b4 Z n0 h 0 0 16 #[.val (.ref o0), .val (.int p1), .val (.ref o2), .val (.int p3), .val (.int p4), .val (.int p5), .val (.int v), .unset] [] := own_icmpN (a := v.toInt) (b := p4.toInt) w d4_13 rfl rfl (by unfold own_cn; rw [e, e4]; omega)
    replace w : own_W K b4 Z n0 h 0 0 17 #[.val (.ref o0), .val (.int p1), .val (.ref o2), .val (.int p3), .val (.int p4), .val (.int p5), .val (.int v), .unset] [(.ref o0)] := own_aloadN w d4_16 rfl
    replace w : own_W K b4 Z n0 h 0 0 20 #[.val (.ref o0), .val (.int p1), .val (.ref o2), .val (.int p3), .val (.int p4), .val (.int p5), .val (.int v), .unset] [(.ref t)] := own_getF w d4_17 (hw _ (List.mem_of_getElem? (i := 17) rfl)) F
    have ea := own_sum e1 e (by omega)
    replace w : own_W K b4 Z n0 h 0 0 21 #[.val (.ref o0), .val (.int p1), .val (.ref o2), .val (.int p3), .val (.int p4), .val (.int p5), .val (.int v), .unset] [(.int p1), (.ref t)] := own_iloadN w d4_20 rfl
    replace w : own_W K b4 Z n0 h 0 0 23 #[.val (.ref o0), .val (.int p1), .val (.ref o2), .val (.int p3), .val (.int p4), .val (.int p5), .val (.int v), .unset] [(.int v), (.int p1), (.ref t)] := own_iload w d4_21 rfl
    replace w : own_W K b4 Z n0 h 0 0 24 #[.val (.ref o0), .val (.int p1), .val (.ref o2), .val (.int p3), .val (.int p4), .val (.int p5), .val (.int v), .unset] [(.int (p1 + v)), (.ref t)] := own_iadd w d4_23
    replace w : own_W K b4 Z n0 h 0 0 25 #[.val (.ref o0), .val (.int p1), .val (.ref o2), .val (.int p3), .val (.int p4), .val (.int p5), .val (.int v), .unset] [(.ref o2), (.int (p1 + v)), (.ref t)] := own_aloadN w d4_24 rfl
    replace w : own_W K b4 Z n0 h 0 0 26 #[.val (.ref o0), .val (.int p1), .val (.ref o2), .val (.int p3), .val (.int p4), .val (.int p5), .val (.int v), .unset] [(.int p3), (.ref o2), (.int (p1 + v)), (.ref t)] := own_iloadN w d4_25 rfl
    replace w : own_W K b4 Z n0 h 0 0 28 #[.val (.ref o0), .val (.int p1), .val (.ref o2), .val (.int p3), .val (.int p4), .val (.int p5), .val (.int v), .unset] [(.int v), (.int p3), (.ref o2), (.int (p1 + v)), (.ref t)] := own_iload w d4_26 rfl
    replace w : own_W K b4 Z n0 h 0 0 29 #[.val (.ref o0), .val (.int p1), .val (.ref o2), .val (.int p3), .val (.int p4), .val (.int p5), .val (.int v), .unset] [(.int (p3 + v)), (.ref o2), (.int (p1 + v)), (.ref t)] := own_iadd w d4_28
    have ed := own_sum e3 e (by omega)
    replace w : own_W K b4 Z n0 h 0 0 30 #[.val (.ref o0), .val (.int p1), .val (.ref o2), .val (.int p3), .val (.int p4), .val (.int p5), .val (.int v), .unset] [(.int (D.getD (O + i) 0)), (.int (p1 + v)), (.ref t)] := own_baload w d4_29 AD (O + i) ed (by omega) rfl
    replace w : own_W K b4 Z n0 h 0 0 33 #[.val (.ref o0), .val (.int p1), .val (.ref o2), .val (.int p3), .val (.int p4), .val (.int p5), .val (.int v), .unset] [(.int (255 : Int32)), (.int (D.getD (O + i) 0)), (.int (p1 + v)), (.ref t)] := own_sipush w d4_30 rfl
    replace w : own_W K b4 Z n0 h 0 0 34 #[.val (.ref o0), .val (.int p1), .val (.ref o2), .val (.int p3), .val (.int p4), .val (.int p5), .val (.int v), .unset] [(.int ((D.getD (O + i) 0) &&& (255 : Int32))), (.int (p1 + v)), (.ref t)] := own_iand w d4_33
    replace w : own_W K b4 Z n0 h 0 0 35 #[.val (.ref o0), .val (.int p1), .val (.ref o2), .val (.int p3), .val (.int p4), .val (.int p5), .val (.int v), .unset] [(.int (((D.getD (O + i) 0) &&& (255 : Int32))).toUInt32.toUInt16.toUInt32.toInt32), (.int (p1 + v)), (.ref t)] := own_i2c w d4_34
    obtain ⟨h1, w, AL1, K1⟩ := own_castore w d4_35 AL (A + i) ea (by omega) ga (l' := l.set (A + i) (own_f D O p5.toInt i)) (by rw [show own_f D O p5.toInt i = _ from if_pos hb])
    replace w : own_W K b4 Z n0 h1 0 0 36 #[.val (.ref o0), .val (.int p1), .val (.ref o2), .val (.int p3), .val (.int p4), .val (.int p5), .val (.int v), .unset] [] := w
    have ei := own_sum e (show (1 : Int32).toInt = ((1 : Nat) : Int) by decide) (by omega)
    replace w : own_W K b4 Z n0 h1 0 0 39 #[.val (.ref o0), .val (.int p1), .val (.ref o2), .val (.int p3), .val (.int p4), .val (.int p5), .val (.int (v + (1 : Int32))), .unset] [] := own_iinc w d4_36 rfl rfl rfl
    replace w : own_W K b4 Z n0 h1 0 0 9 #[.val (.ref o0), .val (.int p1), .val (.ref o2), .val (.int p3), .val (.int p4), .val (.int p5), .val (.int (v + (1 : Int32))), .unset] [] := own_goto w d4_39 (by decide) (by decide)
    refine own_wk (ih (i + 1) _ h1 _ ei (by omega) (by rw [List.length_set]; exact hl) (F.keep K1 (own_nin n1)) AL1 (own_Akeep AD K1 (own_nin n2)) w) ?_
    exact fun u h' ⟨q1, q2, q3⟩ => ⟨q1, K1.trans q2 (fun x hx => Or.inl hx), q3⟩
set_option maxHeartbeats 4000000 in
theorem own_l2 {K : OwnK} {Z : State} {n0 : Nat} {a0 : Array Value} (hw : ∀ d ∈ tables_1, d.before a0 Z = true) (o0 t o2 : Addr) (p1 p3 p4 p5 : Int32) (D : List Int32) (A C O : Nat) (e1 : p1.toInt = A) (e3 : p3.toInt = O) (e4 : p4.toInt = C) (hD : D.length = 8) (hA : A + C ≤ 4) (ga : n0 ≤ t) (n1 : o0 ≠ t) (n2 : o2 ≠ t) (hb : p5.toInt = 2) (hO : O + 2 * C ≤ 8) : ∀ (r i : Nat) (v : Int32) (u : Int32) (h : Heap) (l : List Int32), v.toInt = i → u.toInt = ((O + 2 * i : Nat) : Int) → i + r = C → l.length = 4 → Fld Z h o0 "com/example/orderwire/orderwire/bitmap/PixelStore$Chars" "values" "[C" (.ref t) → own_A .char Z h t l → own_A .byte Z h o2 D → own_W K b4 Z n0 h 0 0 51 #[.val (.ref o0), .val (.int p1), .val (.ref o2), .val (.int p3), .val (.int p4), .val (.int p5), .val (.int v), .val (.int u)] [] → own_G K n0 0 0 (fun u h' => u = none ∧ Keep h h' [t] ∧ own_A .char Z h' t (own_fill (own_f D O p5.toInt) A r i l)) := by
  intro r
  induction r with
  | zero =>
    intro i v u h l e eu hr hl F AL AD w
    replace w : own_W K b4 Z n0 h 0 0 53 #[.val (.ref o0), .val (.int p1), .val (.ref o2), .val (.int p3), .val (.int p4), .val (.int p5), .val (.int v), .val (.int u)] [(.int v)] := own_iload w d4_51 rfl
    replace w : own_W K b4 Z n0 h 0 0 55 #[.val (.ref o0), .val (.int p1), .val (.ref o2), .val (.int p3), .val (.int p4), .val (.int p5), .val (.int v), .val (.int u)] [(.int p4), (.int v)] := own_iload w d4_53 rfl
    replace w : own_W K b4 Z n0 h 0 0 99 #[.val (.ref o0), .val (.int p1), .val (.ref o2), .val (.int p3), .val (.int p4), .val (.int p5), .val (.int v), .val (.int u)] [] := own_icmpY (a := v.toInt) (b := p4.toInt) w d4_55 rfl rfl (by unfold own_cd; rw [e, e4]; omega) (by decide) (by decide)
    exact own_retV w d4_99 rfl ⟨rfl, Keep.refl _ _, AL⟩ (Nat.zero_le _) (Nat.zero_le _)
  | succ r ih =>
    intro i v u h l e eu hr hl F AL AD w
    replace w : own_W K b4 Z n0 h 0 0 53 #[.val (.ref o0), .val (.int p1), .val (.ref o2), .val (.int p3), .val (.int p4), .val (.int p5), .val (.int v), .val (.int u)] [(.int v)] := own_iload w d4_51 rfl
    replace w : own_W K b4 Z n0 h 0 0 55 #[.val (.ref o0), .val (.int p1), .val (.ref o2), .val (.int p3), .val (.int p4), .val (.int p5), .val (.int v), .val (.int u)] [(.int p4), (.int v)] := own_iload w d4_53 rfl
    replace w : own_W K b4 Z n0 h 0 0 58 #[.val (.ref o0), .val (.int p1), .val (.ref o2), .val (.int p3), .val (.int p4), .val (.int p5), .val (.int v), .val (.int u)] [] := own_icmpN (a := v.toInt) (b := p4.toInt) w d4_55 rfl rfl (by unfold own_cn; rw [e, e4]; omega)
    replace w : own_W K b4 Z n0 h 0 0 59 #[.val (.ref o0), .val (.int p1), .val (.ref o2), .val (.int p3), .val (.int p4), .val (.int p5), .val (.int v), .val (.int u)] [(.ref o0)] := own_aloadN w d4_58 rfl
    replace w : own_W K b4 Z n0 h 0 0 62 #[.val (.ref o0), .val (.int p1), .val (.ref o2), .val (.int p3), .val (.int p4), .val (.int p5), .val (.int v), .val (.int u)] [(.ref t)] := own_getF w d4_59 (hw _ (List.mem_of_getElem? (i := 17) rfl)) F
    have ea := own_sum e1 e (by omega)
    replace w : own_W K b4 Z n0 h 0 0 63 #[.val (.ref o0), .val (.int p1), .val (.ref o2), .val (.int p3), .val (.int p4), .val (.int p5), .val (.int v), .val (.int u)] [(.int p1), (.ref t)] := own_iloadN w d4_62 rfl
    replace w : own_W K b4 Z n0 h 0 0 65 #[.val (.ref o0), .val (.int p1), .val (.ref o2), .val (.int p3), .val (.int p4), .val (.int p5), .val (.int v), .val (.int u)] [(.int v), (.int p1), (.ref t)] := own_iload w d4_63 rfl
    replace w : own_W K b4 Z n0 h 0 0 66 #[.val (.ref o0), .val (.int p1), .val (.ref o2), .val (.int p3), .val (.int p4), .val (.int p5), .val (.int v), .val (.int u)] [(.int (p1 + v)), (.ref t)] := own_iadd w d4_65
    replace w : own_W K b4 Z n0 h 0 0 67 #[.val (.ref o0), .val (.int p1), .val (.ref o2), .val (.int p3), .val (.int p4), .val (.int p5), .val (.int v), .val (.int u)] [(.ref o2), (.int (p1 + v)), (.ref t)] := own_aloadN w d4_66 rfl
    replace w : own_W K b4 Z n0 h 0 0 69 #[.val (.ref o0), .val (.int p1), .val (.ref o2), .val (.int p3), .val (.int p4), .val (.int p5), .val (.int v), .val (.int u)] [(.int u), (.ref o2), (.int (p1 + v)), (.ref t)] := own_iload w d4_67 rfl
    replace w : own_W K b4 Z n0 h 0 0 70 #[.val (.ref o0), .val (.int p1), .val (.ref o2), .val (.int p3), .val (.int p4), .val (.int p5), .val (.int v), .val (.int u)] [(.int (D.getD (O + 2 * i) 0)), (.int (p1 + v)), (.ref t)] := own_baload w d4_69 AD (O + 2 * i) eu (by omega) rfl
    replace w : own_W K b4 Z n0 h 0 0 73 #[.val (.ref o0), .val (.int p1), .val (.ref o2), .val (.int p3), .val (.int p4), .val (.int p5), .val (.int v), .val (.int u)] [(.int (255 : Int32)), (.int (D.getD (O + 2 * i) 0)), (.int (p1 + v)), (.ref t)] := own_sipush w d4_70 rfl
    replace w : own_W K b4 Z n0 h 0 0 74 #[.val (.ref o0), .val (.int p1), .val (.ref o2), .val (.int p3), .val (.int p4), .val (.int p5), .val (.int v), .val (.int u)] [(.int ((D.getD (O + 2 * i) 0) &&& (255 : Int32))), (.int (p1 + v)), (.ref t)] := own_iand w d4_73
    replace w : own_W K b4 Z n0 h 0 0 75 #[.val (.ref o0), .val (.int p1), .val (.ref o2), .val (.int p3), .val (.int p4), .val (.int p5), .val (.int v), .val (.int u)] [(.ref o2), (.int ((D.getD (O + 2 * i) 0) &&& (255 : Int32))), (.int (p1 + v)), (.ref t)] := own_aloadN w d4_74 rfl
    replace w : own_W K b4 Z n0 h 0 0 77 #[.val (.ref o0), .val (.int p1), .val (.ref o2), .val (.int p3), .val (.int p4), .val (.int p5), .val (.int v), .val (.int u)] [(.int u), (.ref o2), (.int ((D.getD (O + 2 * i) 0) &&& (255 : Int32))), (.int (p1 + v)), (.ref t)] := own_iload w d4_75 rfl
    replace w : own_W K b4 Z n0 h 0 0 78 #[.val (.ref o0), .val (.int p1), .val (.ref o2), .val (.int p3), .val (.int p4), .val (.int p5), .val (.int v), .val (.int u)] [(.int (1 : Int32)), (.int u), (.ref o2), (.int ((D.getD (O + 2 * i) 0) &&& (255 : Int32))), (.int (p1 + v)), (.ref t)] := own_iconst w d4_77 rfl
    replace w : own_W K b4 Z n0 h 0 0 79 #[.val (.ref o0), .val (.int p1), .val (.ref o2), .val (.int p3), .val (.int p4), .val (.int p5), .val (.int v), .val (.int u)] [(.int (u + (1 : Int32))), (.ref o2), (.int ((D.getD (O + 2 * i) 0) &&& (255 : Int32))), (.int (p1 + v)), (.ref t)] := own_iadd w d4_78
    have ed := own_sum eu (show (1 : Int32).toInt = ((1 : Nat) : Int) by decide) (by omega)
    replace w : own_W K b4 Z n0 h 0 0 80 #[.val (.ref o0), .val (.int p1), .val (.ref o2), .val (.int p3), .val (.int p4), .val (.int p5), .val (.int v), .val (.int u)] [(.int (D.getD (O + 2 * i + 1) 0)), (.int ((D.getD (O + 2 * i) 0) &&& (255 : Int32))), (.int (p1 + v)), (.ref t)] := own_baload w d4_79 AD (O + 2 * i + 1) ed (by omega) rfl
    replace w : own_W K b4 Z n0 h 0 0 83 #[.val (.ref o0), .val (.int p1), .val (.ref o2), .val (.int p3), .val (.int p4), .val (.int p5), .val (.int v), .val (.int u)] [(.int (255 : Int32)), (.int (D.getD (O + 2 * i + 1) 0)), (.int ((D.getD (O + 2 * i) 0) &&& (255 : Int32))), (.int (p1 + v)), (.ref t)] := own_sipush w d4_80 rfl
    replace w : own_W K b4 Z n0 h 0 0 84 #[.val (.ref o0), .val (.int p1), .val (.ref o2), .val (.int p3), .val (.int p4), .val (.int p5), .val (.int v), .val (.int u)] [(.int ((D.getD (O + 2 * i + 1) 0) &&& (255 : Int32))), (.int ((D.getD (O + 2 * i) 0) &&& (255 : Int32))), (.int (p1 + v)), (.ref t)] := own_iand w d4_83
    replace w : own_W K b4 Z n0 h 0 0 86 #[.val (.ref o0), .val (.int p1), .val (.ref o2), .val (.int p3), .val (.int p4), .val (.int p5), .val (.int v), .val (.int u)] [(.int (8 : Int32)), (.int ((D.getD (O + 2 * i + 1) 0) &&& (255 : Int32))), (.int ((D.getD (O + 2 * i) 0) &&& (255 : Int32))), (.int (p1 + v)), (.ref t)] := own_bipush w d4_84 rfl
    replace w : own_W K b4 Z n0 h 0 0 87 #[.val (.ref o0), .val (.int p1), .val (.ref o2), .val (.int p3), .val (.int p4), .val (.int p5), .val (.int v), .val (.int u)] [(.int (((D.getD (O + 2 * i + 1) 0) &&& (255 : Int32)) <<< ((8 : Int32) &&& 31))), (.int ((D.getD (O + 2 * i) 0) &&& (255 : Int32))), (.int (p1 + v)), (.ref t)] := own_ishl w d4_86
    replace w : own_W K b4 Z n0 h 0 0 88 #[.val (.ref o0), .val (.int p1), .val (.ref o2), .val (.int p3), .val (.int p4), .val (.int p5), .val (.int v), .val (.int u)] [(.int (((D.getD (O + 2 * i) 0) &&& (255 : Int32)) ||| (((D.getD (O + 2 * i + 1) 0) &&& (255 : Int32)) <<< ((8 : Int32) &&& 31)))), (.int (p1 + v)), (.ref t)] := own_ior w d4_87
    replace w : own_W K b4 Z n0 h 0 0 89 #[.val (.ref o0), .val (.int p1), .val (.ref o2), .val (.int p3), .val (.int p4), .val (.int p5), .val (.int v), .val (.int u)] [(.int ((((D.getD (O + 2 * i) 0) &&& (255 : Int32)) ||| (((D.getD (O + 2 * i + 1) 0) &&& (255 : Int32)) <<< ((8 : Int32) &&& 31)))).toUInt32.toUInt16.toUInt32.toInt32), (.int (p1 + v)), (.ref t)] := own_i2c w d4_88
    obtain ⟨h1, w, AL1, K1⟩ := own_castore w d4_89 AL (A + i) ea (by omega) ga (l' := l.set (A + i) (own_f D O p5.toInt i)) (by rw [show own_f D O p5.toInt i = _ from if_neg (by omega)])
    replace w : own_W K b4 Z n0 h1 0 0 90 #[.val (.ref o0), .val (.int p1), .val (.ref o2), .val (.int p3), .val (.int p4), .val (.int p5), .val (.int v), .val (.int u)] [] := w
    have ei := own_sum e (show (1 : Int32).toInt = ((1 : Nat) : Int) by decide) (by omega)
    have ev := own_sum eu (show (2 : Int32).toInt = ((2 : Nat) : Int) by decide) (by omega)
    replace w : own_W K b4 Z n0 h1 0 0 93 #[.val (.ref o0), .val (.int p1), .val (.ref o2), .val (.int p3), .val (.int p4), .val (.int p5), .val (.int (v + (1 : Int32))), .val (.int u)] [] := own_iinc w d4_90 rfl rfl rfl
    replace w : own_W K b4 Z n0 h1 0 0 96 #[.val (.ref o0), .val (.int p1), .val (.ref o2), .val (.int p3), .val (.int p4), .val (.int p5), .val (.int (v + (1 : Int32))), .val (.int (u + (2 : Int32)))] [] := own_iinc w d4_93 rfl rfl rfl
    replace w : own_W K b4 Z n0 h1 0 0 51 #[.val (.ref o0), .val (.int p1), .val (.ref o2), .val (.int p3), .val (.int p4), .val (.int p5), .val (.int (v + (1 : Int32))), .val (.int (u + (2 : Int32)))] [] := own_goto w d4_96 (by decide) (by decide)
    refine own_wk (ih (i + 1) _ _ h1 _ ei (by rw [ev]; omega) (by omega) (by rw [List.length_set]; exact hl) (F.keep K1 (own_nin n1)) AL1 (own_Akeep AD K1 (own_nin n2)) w) ?_
    exact fun u h' ⟨q1, q2, q3⟩ => ⟨q1, K1.trans q2 (fun x hx => Or.inl hx), q3⟩
theorem rm4 {Z : State} {n0 : Nat} {h : Heap} {a0 : Array Value} (hw : ∀ d ∈ tables_1, d.before a0 Z = true) (o0 t o2 : Addr) (p1 p3 p4 p5 : Int32) (D : List Int32) (A C O : Nat) (e1 : p1.toInt = A) (e3 : p3.toInt = O) (e4 : p4.toInt = C) (hD : D.length = 8) (hA : A + C ≤ 4) (ga : n0 ≤ t) (n1 : o0 ≠ t) (n2 : o2 ≠ t) (l : List Int32) (hl : l.length = 4) (hb : p5.toInt = 1 ∨ p5.toInt = 2) (hO1 : p5.toInt = 1 → O + C ≤ 8) (hO2 : p5.toInt = 2 → O + 2 * C ≤ 8) (F : Fld Z h o0 "com/example/orderwire/orderwire/bitmap/PixelStore$Chars" "values" "[C" (.ref t)) (AL : own_A .char Z h t l) (AD : own_A .byte Z h o2 D) (hn : n0 ≤ h.size) : ∀ l', own_M l' Z n0 b4 #[(.ref o0), (.int p1), (.ref o2), (.int p3), (.int p4), (.int p5)] h (fun u h' => u = none ∧ Keep h h' [t] ∧ own_A .char Z h' t (own_fill (own_f D O p5.toInt) A C 0 l)) := by
  intro l'
  refine own_enter hn pn_4 (ef_4 o0 p1 o2 p3 p4 p5) (fun K w => ?_)
  replace w : own_W K b4 Z n0 h 0 0 2 #[.val (.ref o0), .val (.int p1), .val (.ref o2), .val (.int p3), .val (.int p4), .val (.int p5), .unset, .unset] [(.int p5)] := own_iload w d4_0 rfl
  replace w : own_W K b4 Z n0 h 0 0 3 #[.val (.ref o0), .val (.int p1), .val (.ref o2), .val (.int p3), .val (.int p4), .val (.int p5), .unset, .unset] [(.int (1 : Int32)), (.int p5)] := own_iconst w d4_2 rfl
  by_cases h1 : p5.toInt = 1
  · replace w : own_W K b4 Z n0 h 0 0 6 #[.val (.ref o0), .val (.int p1), .val (.ref o2), .val (.int p3), .val (.int p4), .val (.int p5), .unset, .unset] [] := own_icmpN (a := p5.toInt) (b := 1) w d4_3 rfl (by decide) h1
    replace w : own_W K b4 Z n0 h 0 0 7 #[.val (.ref o0), .val (.int p1), .val (.ref o2), .val (.int p3), .val (.int p4), .val (.int p5), .unset, .unset] [(.int (0 : Int32))] := own_iconst w d4_6 rfl
    replace w : own_W K b4 Z n0 h 0 0 9 #[.val (.ref o0), .val (.int p1), .val (.ref o2), .val (.int p3), .val (.int p4), .val (.int p5), .val (.int (0 : Int32)), .unset] [] := own_istore w d4_7 rfl
    exact own_l1 hw o0 t o2 p1 p3 p4 p5 D A C O e1 e3 e4 hD hA ga n1 n2 h1 (hO1 h1) C 0 _ h l (by decide) (by omega) hl F AL AD w
  · replace w : own_W K b4 Z n0 h 0 0 45 #[.val (.ref o0), .val (.int p1), .val (.ref o2), .val (.int p3), .val (.int p4), .val (.int p5), .unset, .unset] [] := own_icmpY (a := p5.toInt) (b := 1) w d4_3 rfl (by decide) h1 (by decide) (by decide)
    replace w : own_W K b4 Z n0 h 0 0 46 #[.val (.ref o0), .val (.int p1), .val (.ref o2), .val (.int p3), .val (.int p4), .val (.int p5), .unset, .unset] [(.int (0 : Int32))] := own_iconst w d4_45 rfl
    replace w : own_W K b4 Z n0 h 0 0 48 #[.val (.ref o0), .val (.int p1), .val (.ref o2), .val (.int p3), .val (.int p4), .val (.int p5), .val (.int (0 : Int32)), .unset] [] := own_istore w d4_46 rfl
    replace w : own_W K b4 Z n0 h 0 0 49 #[.val (.ref o0), .val (.int p1), .val (.ref o2), .val (.int p3), .val (.int p4), .val (.int p5), .val (.int (0 : Int32)), .unset] [(.int p3)] := own_iloadN w d4_48 rfl
    replace w : own_W K b4 Z n0 h 0 0 51 #[.val (.ref o0), .val (.int p1), .val (.ref o2), .val (.int p3), .val (.int p4), .val (.int p5), .val (.int (0 : Int32)), .val (.int p3)] [] := own_istore w d4_49 rfl
    exact own_l2 hw o0 t o2 p1 p3 p4 p5 D A C O e1 e3 e4 hD hA ga n1 n2 (by omega) (hO2 (by omega)) C 0 _ _ h l (by decide) e3 (by omega) hl F AL AD w
theorem own_shl8 (x : Int32) : (x <<< ((8 : Int32) &&& 31)).toBitVec = x.toBitVec <<< 8 := rfl
theorem own_shl16 (x : Int32) : (x <<< ((16 : Int32) &&& 31)).toBitVec = x.toBitVec <<< 16 := rfl
theorem own_shl24 (x : Int32) : (x <<< ((24 : Int32) &&& 31)).toBitVec = x.toBitVec <<< 24 := rfl
theorem own_m255 (x : Int32) : (x &&& (255 : Int32)).toBitVec = x.toBitVec &&& 255#32 := rfl
theorem own_b255 (i : Nat) (hi : i < 32) : (255#32).getLsbD i = decide (i < 8) := by
  have : ∀ i : Fin 32, (255#32).getLsbD i.val = decide (i.val < 8) := by decide
  exact this ⟨i, hi⟩
theorem own_c1 (x : Int32) : nar .char (x &&& (255 : Int32)).toUInt32.toUInt16.toUInt32.toInt32 = x &&& (255 : Int32) := by
  apply Int32.toBitVec_inj.mp
  show BitVec.setWidth 32 (BitVec.setWidth 16 (BitVec.setWidth 32 (BitVec.setWidth 16 (x.toBitVec &&& 255#32)))) = x.toBitVec &&& 255#32
  apply BitVec.eq_of_getLsbD_eq
  intro i hi
  simp only [BitVec.getLsbD_setWidth, BitVec.getLsbD_and, own_b255 i hi]
  by_cases h : i < 8
  · simp [h, hi, show i < 16 by omega]
  · simp [h]
theorem own_disj8 (x y : BitVec 32) : (x &&& 255#32) &&& ((y &&& 255#32) <<< 8) = 0#32 := by
  apply BitVec.eq_of_getLsbD_eq
  intro i hi
  simp only [BitVec.getLsbD_and, BitVec.getLsbD_shiftLeft, own_b255 i hi, BitVec.getLsbD_zero]
  by_cases h : i < 8 <;> simp [h]
theorem own_or3 (x y z : Int32) : ((x &&& (255 : Int32)) ||| ((y &&& (255 : Int32)) <<< ((8 : Int32) &&& 31))) ||| ((z &&& (255 : Int32)) <<< ((16 : Int32) &&& 31)) = ((x &&& (255 : Int32)) + ((y &&& (255 : Int32)) <<< ((8 : Int32) &&& 31))) + ((z &&& (255 : Int32)) <<< ((16 : Int32) &&& 31)) := by
  apply Int32.toBitVec_inj.mp
  simp only [Int32.toBitVec_or, Int32.toBitVec_add, own_shl8, own_shl16, own_m255]
  rw [BitVec.add_eq_or_of_and_eq_zero _ _ (own_disj8 _ _), BitVec.add_eq_or_of_and_eq_zero]
  apply BitVec.eq_of_getLsbD_eq
  intro i hi
  simp only [BitVec.getLsbD_and, BitVec.getLsbD_or, BitVec.getLsbD_shiftLeft, own_b255 i hi, BitVec.getLsbD_zero]
  by_cases h : i < 16
  · simp [h]
  · have h1 : ¬ i < 8 := by omega
    rw [own_b255 (i - 8) (by omega)]
    have h2 : ¬ i - 8 < 8 := by omega
    simp [h1, h2]
theorem own_or4 (x y z t : Int32) : (((x &&& (255 : Int32)) ||| ((y &&& (255 : Int32)) <<< ((8 : Int32) &&& 31))) ||| ((z &&& (255 : Int32)) <<< ((16 : Int32) &&& 31))) ||| ((t &&& (255 : Int32)) <<< ((24 : Int32) &&& 31)) = (((x &&& (255 : Int32)) + ((y &&& (255 : Int32)) <<< ((8 : Int32) &&& 31))) + ((z &&& (255 : Int32)) <<< ((16 : Int32) &&& 31))) + ((t &&& (255 : Int32)) <<< ((24 : Int32) &&& 31)) := by
  rw [← own_or3]
  apply Int32.toBitVec_inj.mp
  simp only [Int32.toBitVec_or, Int32.toBitVec_add, own_shl8, own_shl16, own_shl24, own_m255]
  rw [BitVec.add_eq_or_of_and_eq_zero]
  apply BitVec.eq_of_getLsbD_eq
  intro i hi
  simp only [BitVec.getLsbD_and, BitVec.getLsbD_or, BitVec.getLsbD_shiftLeft, own_b255 i hi, BitVec.getLsbD_zero]
  by_cases h : i < 24
  · simp [h]
  · have h1 : ¬ i < 8 := by omega
    rw [own_b255 (i - 8) (by omega), own_b255 (i - 16) (by omega)]
    have h2 : ¬ i - 8 < 8 := by omega
    have h3 : ¬ i - 16 < 8 := by omega
    simp [h1, h2, h3]
theorem own_mul256 (x : Int32) : (256 : Int32) * x = x <<< ((8 : Int32) &&& 31) := by
  apply Int32.toBitVec_inj.mp
  rw [own_shl8, Int32.toBitVec_mul, BitVec.shiftLeft_eq_mul_twoPow, BitVec.mul_comm]
  rfl
theorem own_c2 (x y : Int32) : nar .char ((x &&& (255 : Int32)) ||| ((y &&& (255 : Int32)) <<< ((8 : Int32) &&& 31))).toUInt32.toUInt16.toUInt32.toInt32 = (x &&& (255 : Int32)) + (256 : Int32) * (y &&& (255 : Int32)) := by
  rw [own_mul256]
  apply Int32.toBitVec_inj.mp
  rw [Int32.toBitVec_add, own_shl8, own_m255, own_m255, BitVec.add_eq_or_of_and_eq_zero _ _ (own_disj8 _ _)]
  show BitVec.setWidth 32 (BitVec.setWidth 16 (BitVec.setWidth 32 (BitVec.setWidth 16 ((x.toBitVec &&& 255#32) ||| ((y.toBitVec &&& 255#32) <<< 8))))) = _
  apply BitVec.eq_of_getLsbD_eq
  intro i hi
  simp only [BitVec.getLsbD_setWidth, BitVec.getLsbD_and, BitVec.getLsbD_or, BitVec.getLsbD_shiftLeft, own_b255 i hi]
  by_cases h : i < 16
  · simp [h, hi]
  · have h1 : ¬ i < 8 := by omega
    rw [own_b255 (i - 8) (by omega)]
    have h2 : ¬ i - 8 < 8 := by omega
    simp [h, h1, h2]
theorem own_by (x : Int32) : nar .byte (nar .byte (x &&& (255 : Int32)).toInt8.toInt32) &&& (255 : Int32) = x &&& (255 : Int32) := by
  apply Int32.toBitVec_inj.mp
  show BitVec.signExtend 32 (BitVec.signExtend 8 (BitVec.signExtend 32 (BitVec.signExtend 8 (BitVec.signExtend 32 (BitVec.signExtend 8 (x.toBitVec &&& 255#32)))))) &&& 255#32 = x.toBitVec &&& 255#32
  apply BitVec.eq_of_getLsbD_eq
  intro i hi
  simp only [BitVec.getLsbD_setWidth, BitVec.getLsbD_and, BitVec.getLsbD_signExtend, own_b255 i hi]
  by_cases h : i < 8
  · simp [h, hi, show i < 32 from hi]
  · simp [h]
theorem own_fe (D : List Int32) (O A J : Nat) (b : Int) : own_f D O b (J - A) = if b = 1 then D.getD (O + (J - A)) 0 &&& (255 : Int32) else (D.getD (O + 2 * (J - A)) 0 &&& (255 : Int32)) + (256 : Int32) * (D.getD (O + 2 * (J - A) + 1) 0 &&& (255 : Int32)) := by
  unfold own_f
  by_cases h : b = 1
  · rw [if_pos h, if_pos h, own_c1]
  · rw [if_neg h, if_neg h, own_c2]
theorem own_law (D I : List Int32) (A C O : Nat) (b : Int) (J : Nat) (hJ : J < I.length) : (own_fill (own_f D O b) A C 0 I).getD J 0 = own_e D I A C O b J := by
  rw [own_fill_get _ _ _ _ _ _ hJ]
  unfold own_e
  by_cases h : J < A ∨ A + C ≤ J
  · rw [if_pos h, if_neg (by omega)]
  · rw [if_neg h, if_pos (by omega), own_fe]
theorem own_and (x m : Int32) (n : Nat) (hm : m.toInt = n) : ∃ k : Nat, k ≤ n ∧ (x &&& m).toInt = k := by
  obtain ⟨h1, h2⟩ := Jvm.Kit.i32_and_bounds x (m := m) (Jvm.Kit.i32_nonneg.mpr (by omega))
  rw [Int32.le_iff_toInt_le] at h1 h2
  have e0 : (0 : Int32).toInt = 0 := by decide
  exact ⟨(x &&& m).toInt.toNat, by omega, by omega⟩
theorem own_rem {x y : Int32} {a b : Nat} (ex : x.toInt = a) (ey : y.toInt = b) (hb : 0 < b) : y ≠ 0 ∧ ∃ k : Nat, k < b ∧ k ≤ a ∧ (x % y).toInt = k := by
  refine ⟨fun q => ?_, a % b, Nat.mod_lt _ hb, Nat.mod_le _ _, ?_⟩
  · rw [q] at ey
    have e0 : (0 : Int32).toInt = 0 := by decide
    omega
  · rw [Jvm.Kit.i32_rem_nonneg (by omega), ex, ey]; omega
abbrev b0 : OwnB := (x, code, maxLocals, ret, room_1)
theorem pn_0 : plainName "com/example/orderwire/orderwire/bitmap/CharsReadLittleEndianPinLaw" = true := by first | (simp [plainName, overriddenIn]; done) | decide +kernel
theorem pd_0 : parseMethodDescriptor "(JJIIII)Z" = some ⟨[.long, .long, .int, .int, .int, .int], (some .boolean)⟩ := by decide +kernel
theorem ef_0 (q0 : Int64) (q2 : Int64) (p4 : Int32) (p5 : Int32) (p6 : Int32) (p7 : Int32) (m : MethodId) : entryFrame m #[(.long q0), (.long q2), (.int p4), (.int p5), (.int p6), (.int p7)] maxLocals = mkF m 0 #[.val (.long q0), .second, .val (.long q2), .second, .val (.int p4), .val (.int p5), .val (.int p6), .val (.int p7), .unset, .unset, .unset, .unset, .unset, .unset, .unset, .unset] [] := by first | (simp [entryFrame, mkF, argsToLocals, Value.category, maxLocals]; done) | rfl
set_option maxRecDepth 65536 in
set_option maxHeartbeats 40000000 in
theorem own_law0 {K : OwnK} {Z : State} {n0 : Nat} {h : Heap} {a0 : Array Value} (hw : ∀ d ∈ tables_1, d.before a0 Z = true) (q0 : Int64) (q2 : Int64) (p4 : Int32) (p5 : Int32) (p6 : Int32) (p7 : Int32) (w : own_W K b0 Z n0 h 0 0 0 #[.val (.long q0), .second, .val (.long q2), .second, .val (.int p4), .val (.int p5), .val (.int p6), .val (.int p7), .unset, .unset, .unset, .unset, .unset, .unset, .unset, .unset] []) : own_G K n0 b0.rm.cells b0.rm.slots (fun v _ => v = some (.int 1)) := by
  have hn := own_size w
  replace w : own_W K b0 Z n0 h 0 0 2 #[.val (.long q0), .second, .val (.long q2), .second, .val (.int p4), .val (.int p5), .val (.int p6), .val (.int p7), .unset, .unset, .unset, .unset, .unset, .unset, .unset, .unset] [(.int (8 : Int32))] := own_bipush w at_0 rfl
  obtain ⟨h_a1, a1, w, s_a1, g_a1, E_a1, A_a1⟩ := own_newI w at_2 (hw _ (List.mem_of_getElem? (i := 0) rfl)) rfl 8 8 (by decide) (Nat.le_refl _) (by decide) (by decide) (by decide) (l' := [0, 0, 0, 0, 0, 0, 0, 0]) rfl
  replace w : own_W K b0 Z n0 h_a1 1 8 4 #[.val (.long q0), .second, .val (.long q2), .second, .val (.int p4), .val (.int p5), .val (.int p6), .val (.int p7), .unset, .unset, .unset, .unset, .unset, .unset, .unset, .unset] [(.ref a1)] := w
  replace A_a1 : own_A .byte Z h_a1 a1 [0, 0, 0, 0, 0, 0, 0, 0] := A_a1
  replace w : own_W K b0 Z n0 h_a1 1 8 6 #[.val (.long q0), .second, .val (.long q2), .second, .val (.int p4), .val (.int p5), .val (.int p6), .val (.int p7), .val (.ref a1), .unset, .unset, .unset, .unset, .unset, .unset, .unset] [] := own_astore w at_4 rfl
  replace w : own_W K b0 Z n0 h_a1 1 8 8 #[.val (.long q0), .second, .val (.long q2), .second, .val (.int p4), .val (.int p5), .val (.int p6), .val (.int p7), .val (.ref a1), .unset, .unset, .unset, .unset, .unset, .unset, .unset] [(.ref a1)] := own_aload w at_6 rfl
  replace w : own_W K b0 Z n0 h_a1 1 8 9 #[.val (.long q0), .second, .val (.long q2), .second, .val (.int p4), .val (.int p5), .val (.int p6), .val (.int p7), .val (.ref a1), .unset, .unset, .unset, .unset, .unset, .unset, .unset] [(.int (0 : Int32)), (.ref a1)] := own_iconst w at_8 rfl
  replace w : own_W K b0 Z n0 h_a1 1 8 10 #[.val (.long q0), .second, .val (.long q2), .second, .val (.int p4), .val (.int p5), .val (.int p6), .val (.int p7), .val (.ref a1), .unset, .unset, .unset, .unset, .unset, .unset, .unset] [(.long q0), (.int (0 : Int32)), (.ref a1)] := own_lloadN w at_9 rfl
  replace w : own_W K b0 Z n0 h_a1 1 8 11 #[.val (.long q0), .second, .val (.long q2), .second, .val (.int p4), .val (.int p5), .val (.int p6), .val (.int p7), .val (.ref a1), .unset, .unset, .unset, .unset, .unset, .unset, .unset] [(.int (q0).toInt32), (.int (0 : Int32)), (.ref a1)] := own_l2i w at_10
  replace w : own_W K b0 Z n0 h_a1 1 8 12 #[.val (.long q0), .second, .val (.long q2), .second, .val (.int p4), .val (.int p5), .val (.int p6), .val (.int p7), .val (.ref a1), .unset, .unset, .unset, .unset, .unset, .unset, .unset] [(.int ((q0).toInt32).toInt8.toInt32), (.int (0 : Int32)), (.ref a1)] := own_i2b w at_11
  obtain ⟨h1, w, A_a1, K_h1⟩ := own_bastore w at_12 A_a1 0 (by decide) (Nat.le_of_ble_eq_true rfl) g_a1 (l' := [(nar .byte ((q0).toInt32).toInt8.toInt32), 0, 0, 0, 0, 0, 0, 0]) rfl
  replace w : own_W K b0 Z n0 h1 1 8 13 #[.val (.long q0), .second, .val (.long q2), .second, .val (.int p4), .val (.int p5), .val (.int p6), .val (.int p7), .val (.ref a1), .unset, .unset, .unset, .unset, .unset, .unset, .unset] [] := w
  replace w : own_W K b0 Z n0 h1 1 8 15 #[.val (.long q0), .second, .val (.long q2), .second, .val (.int p4), .val (.int p5), .val (.int p6), .val (.int p7), .val (.ref a1), .unset, .unset, .unset, .unset, .unset, .unset, .unset] [(.ref a1)] := own_aload w at_13 rfl
  replace w : own_W K b0 Z n0 h1 1 8 16 #[.val (.long q0), .second, .val (.long q2), .second, .val (.int p4), .val (.int p5), .val (.int p6), .val (.int p7), .val (.ref a1), .unset, .unset, .unset, .unset, .unset, .unset, .unset] [(.int (1 : Int32)), (.ref a1)] := own_iconst w at_15 rfl
  replace w : own_W K b0 Z n0 h1 1 8 17 #[.val (.long q0), .second, .val (.long q2), .second, .val (.int p4), .val (.int p5), .val (.int p6), .val (.int p7), .val (.ref a1), .unset, .unset, .unset, .unset, .unset, .unset, .unset] [(.long q0), (.int (1 : Int32)), (.ref a1)] := own_lloadN w at_16 rfl
  replace w : own_W K b0 Z n0 h1 1 8 19 #[.val (.long q0), .second, .val (.long q2), .second, .val (.int p4), .val (.int p5), .val (.int p6), .val (.int p7), .val (.ref a1), .unset, .unset, .unset, .unset, .unset, .unset, .unset] [(.int (8 : Int32)), (.long q0), (.int (1 : Int32)), (.ref a1)] := own_bipush w at_17 rfl
  replace w : own_W K b0 Z n0 h1 1 8 20 #[.val (.long q0), .second, .val (.long q2), .second, .val (.int p4), .val (.int p5), .val (.int p6), .val (.int p7), .val (.ref a1), .unset, .unset, .unset, .unset, .unset, .unset, .unset] [(.long (XT.ushrL q0 (8 : Int32))), (.int (1 : Int32)), (.ref a1)] := own_lushr w at_19
  replace w : own_W K b0 Z n0 h1 1 8 21 #[.val (.long q0), .second, .val (.long q2), .second, .val (.int p4), .val (.int p5), .val (.int p6), .val (.int p7), .val (.ref a1), .unset, .unset, .unset, .unset, .unset, .unset, .unset] [(.int ((XT.ushrL q0 (8 : Int32))).toInt32), (.int (1 : Int32)), (.ref a1)] := own_l2i w at_20
  replace w : own_W K b0 Z n0 h1 1 8 22 #[.val (.long q0), .second, .val (.long q2), .second, .val (.int p4), .val (.int p5), .val (.int p6), .val (.int p7), .val (.ref a1), .unset, .unset, .unset, .unset, .unset, .unset, .unset] [(.int (((XT.ushrL q0 (8 : Int32))).toInt32).toInt8.toInt32), (.int (1 : Int32)), (.ref a1)] := own_i2b w at_21
  obtain ⟨h2, w, A_a1, K_h2⟩ := own_bastore w at_22 A_a1 1 (by decide) (Nat.le_of_ble_eq_true rfl) g_a1 (l' := [(nar .byte ((q0).toInt32).toInt8.toInt32), (nar .byte (((XT.ushrL q0 (8 : Int32))).toInt32).toInt8.toInt32), 0, 0, 0, 0, 0, 0]) rfl
  replace w : own_W K b0 Z n0 h2 1 8 23 #[.val (.long q0), .second, .val (.long q2), .second, .val (.int p4), .val (.int p5), .val (.int p6), .val (.int p7), .val (.ref a1), .unset, .unset, .unset, .unset, .unset, .unset, .unset] [] := w
  replace w : own_W K b0 Z n0 h2 1 8 25 #[.val (.long q0), .second, .val (.long q2), .second, .val (.int p4), .val (.int p5), .val (.int p6), .val (.int p7), .val (.ref a1), .unset, .unset, .unset, .unset, .unset, .unset, .unset] [(.ref a1)] := own_aload w at_23 rfl
  replace w : own_W K b0 Z n0 h2 1 8 26 #[.val (.long q0), .second, .val (.long q2), .second, .val (.int p4), .val (.int p5), .val (.int p6), .val (.int p7), .val (.ref a1), .unset, .unset, .unset, .unset, .unset, .unset, .unset] [(.int (2 : Int32)), (.ref a1)] := own_iconst w at_25 rfl
  replace w : own_W K b0 Z n0 h2 1 8 27 #[.val (.long q0), .second, .val (.long q2), .second, .val (.int p4), .val (.int p5), .val (.int p6), .val (.int p7), .val (.ref a1), .unset, .unset, .unset, .unset, .unset, .unset, .unset] [(.long q0), (.int (2 : Int32)), (.ref a1)] := own_lloadN w at_26 rfl
  replace w : own_W K b0 Z n0 h2 1 8 29 #[.val (.long q0), .second, .val (.long q2), .second, .val (.int p4), .val (.int p5), .val (.int p6), .val (.int p7), .val (.ref a1), .unset, .unset, .unset, .unset, .unset, .unset, .unset] [(.int (16 : Int32)), (.long q0), (.int (2 : Int32)), (.ref a1)] := own_bipush w at_27 rfl
  replace w : own_W K b0 Z n0 h2 1 8 30 #[.val (.long q0), .second, .val (.long q2), .second, .val (.int p4), .val (.int p5), .val (.int p6), .val (.int p7), .val (.ref a1), .unset, .unset, .unset, .unset, .unset, .unset, .unset] [(.long (XT.ushrL q0 (16 : Int32))), (.int (2 : Int32)), (.ref a1)] := own_lushr w at_29
  replace w : own_W K b0 Z n0 h2 1 8 31 #[.val (.long q0), .second, .val (.long q2), .second, .val (.int p4), .val (.int p5), .val (.int p6), .val (.int p7), .val (.ref a1), .unset, .unset, .unset, .unset, .unset, .unset, .unset] [(.int ((XT.ushrL q0 (16 : Int32))).toInt32), (.int (2 : Int32)), (.ref a1)] := own_l2i w at_30
  replace w : own_W K b0 Z n0 h2 1 8 32 #[.val (.long q0), .second, .val (.long q2), .second, .val (.int p4), .val (.int p5), .val (.int p6), .val (.int p7), .val (.ref a1), .unset, .unset, .unset, .unset, .unset, .unset, .unset] [(.int (((XT.ushrL q0 (16 : Int32))).toInt32).toInt8.toInt32), (.int (2 : Int32)), (.ref a1)] := own_i2b w at_31
  obtain ⟨h3, w, A_a1, K_h3⟩ := own_bastore w at_32 A_a1 2 (by decide) (Nat.le_of_ble_eq_true rfl) g_a1 (l' := [(nar .byte ((q0).toInt32).toInt8.toInt32), (nar .byte (((XT.ushrL q0 (8 : Int32))).toInt32).toInt8.toInt32), (nar .byte (((XT.ushrL q0 (16 : Int32))).toInt32).toInt8.toInt32), 0, 0, 0, 0, 0]) rfl
  replace w : own_W K b0 Z n0 h3 1 8 33 #[.val (.long q0), .second, .val (.long q2), .second, .val (.int p4), .val (.int p5), .val (.int p6), .val (.int p7), .val (.ref a1), .unset, .unset, .unset, .unset, .unset, .unset, .unset] [] := w
  replace w : own_W K b0 Z n0 h3 1 8 35 #[.val (.long q0), .second, .val (.long q2), .second, .val (.int p4), .val (.int p5), .val (.int p6), .val (.int p7), .val (.ref a1), .unset, .unset, .unset, .unset, .unset, .unset, .unset] [(.ref a1)] := own_aload w at_33 rfl
  replace w : own_W K b0 Z n0 h3 1 8 36 #[.val (.long q0), .second, .val (.long q2), .second, .val (.int p4), .val (.int p5), .val (.int p6), .val (.int p7), .val (.ref a1), .unset, .unset, .unset, .unset, .unset, .unset, .unset] [(.int (3 : Int32)), (.ref a1)] := own_iconst w at_35 rfl
  replace w : own_W K b0 Z n0 h3 1 8 37 #[.val (.long q0), .second, .val (.long q2), .second, .val (.int p4), .val (.int p5), .val (.int p6), .val (.int p7), .val (.ref a1), .unset, .unset, .unset, .unset, .unset, .unset, .unset] [(.long q0), (.int (3 : Int32)), (.ref a1)] := own_lloadN w at_36 rfl
  replace w : own_W K b0 Z n0 h3 1 8 39 #[.val (.long q0), .second, .val (.long q2), .second, .val (.int p4), .val (.int p5), .val (.int p6), .val (.int p7), .val (.ref a1), .unset, .unset, .unset, .unset, .unset, .unset, .unset] [(.int (24 : Int32)), (.long q0), (.int (3 : Int32)), (.ref a1)] := own_bipush w at_37 rfl
  replace w : own_W K b0 Z n0 h3 1 8 40 #[.val (.long q0), .second, .val (.long q2), .second, .val (.int p4), .val (.int p5), .val (.int p6), .val (.int p7), .val (.ref a1), .unset, .unset, .unset, .unset, .unset, .unset, .unset] [(.long (XT.ushrL q0 (24 : Int32))), (.int (3 : Int32)), (.ref a1)] := own_lushr w at_39
  replace w : own_W K b0 Z n0 h3 1 8 41 #[.val (.long q0), .second, .val (.long q2), .second, .val (.int p4), .val (.int p5), .val (.int p6), .val (.int p7), .val (.ref a1), .unset, .unset, .unset, .unset, .unset, .unset, .unset] [(.int ((XT.ushrL q0 (24 : Int32))).toInt32), (.int (3 : Int32)), (.ref a1)] := own_l2i w at_40
  replace w : own_W K b0 Z n0 h3 1 8 42 #[.val (.long q0), .second, .val (.long q2), .second, .val (.int p4), .val (.int p5), .val (.int p6), .val (.int p7), .val (.ref a1), .unset, .unset, .unset, .unset, .unset, .unset, .unset] [(.int (((XT.ushrL q0 (24 : Int32))).toInt32).toInt8.toInt32), (.int (3 : Int32)), (.ref a1)] := own_i2b w at_41
  obtain ⟨h4, w, A_a1, K_h4⟩ := own_bastore w at_42 A_a1 3 (by decide) (Nat.le_of_ble_eq_true rfl) g_a1 (l' := [(nar .byte ((q0).toInt32).toInt8.toInt32), (nar .byte (((XT.ushrL q0 (8 : Int32))).toInt32).toInt8.toInt32), (nar .byte (((XT.ushrL q0 (16 : Int32))).toInt32).toInt8.toInt32), (nar .byte (((XT.ushrL q0 (24 : Int32))).toInt32).toInt8.toInt32), 0, 0, 0, 0]) rfl
  replace w : own_W K b0 Z n0 h4 1 8 43 #[.val (.long q0), .second, .val (.long q2), .second, .val (.int p4), .val (.int p5), .val (.int p6), .val (.int p7), .val (.ref a1), .unset, .unset, .unset, .unset, .unset, .unset, .unset] [] := w
  replace w : own_W K b0 Z n0 h4 1 8 45 #[.val (.long q0), .second, .val (.long q2), .second, .val (.int p4), .val (.int p5), .val (.int p6), .val (.int p7), .val (.ref a1), .unset, .unset, .unset, .unset, .unset, .unset, .unset] [(.ref a1)] := own_aload w at_43 rfl
  replace w : own_W K b0 Z n0 h4 1 8 46 #[.val (.long q0), .second, .val (.long q2), .second, .val (.int p4), .val (.int p5), .val (.int p6), .val (.int p7), .val (.ref a1), .unset, .unset, .unset, .unset, .unset, .unset, .unset] [(.int (4 : Int32)), (.ref a1)] := own_iconst w at_45 rfl
  replace w : own_W K b0 Z n0 h4 1 8 47 #[.val (.long q0), .second, .val (.long q2), .second, .val (.int p4), .val (.int p5), .val (.int p6), .val (.int p7), .val (.ref a1), .unset, .unset, .unset, .unset, .unset, .unset, .unset] [(.long q0), (.int (4 : Int32)), (.ref a1)] := own_lloadN w at_46 rfl
  replace w : own_W K b0 Z n0 h4 1 8 49 #[.val (.long q0), .second, .val (.long q2), .second, .val (.int p4), .val (.int p5), .val (.int p6), .val (.int p7), .val (.ref a1), .unset, .unset, .unset, .unset, .unset, .unset, .unset] [(.int (32 : Int32)), (.long q0), (.int (4 : Int32)), (.ref a1)] := own_bipush w at_47 rfl
  replace w : own_W K b0 Z n0 h4 1 8 50 #[.val (.long q0), .second, .val (.long q2), .second, .val (.int p4), .val (.int p5), .val (.int p6), .val (.int p7), .val (.ref a1), .unset, .unset, .unset, .unset, .unset, .unset, .unset] [(.long (XT.ushrL q0 (32 : Int32))), (.int (4 : Int32)), (.ref a1)] := own_lushr w at_49
  replace w : own_W K b0 Z n0 h4 1 8 51 #[.val (.long q0), .second, .val (.long q2), .second, .val (.int p4), .val (.int p5), .val (.int p6), .val (.int p7), .val (.ref a1), .unset, .unset, .unset, .unset, .unset, .unset, .unset] [(.int ((XT.ushrL q0 (32 : Int32))).toInt32), (.int (4 : Int32)), (.ref a1)] := own_l2i w at_50
  replace w : own_W K b0 Z n0 h4 1 8 52 #[.val (.long q0), .second, .val (.long q2), .second, .val (.int p4), .val (.int p5), .val (.int p6), .val (.int p7), .val (.ref a1), .unset, .unset, .unset, .unset, .unset, .unset, .unset] [(.int (((XT.ushrL q0 (32 : Int32))).toInt32).toInt8.toInt32), (.int (4 : Int32)), (.ref a1)] := own_i2b w at_51
  obtain ⟨h5, w, A_a1, K_h5⟩ := own_bastore w at_52 A_a1 4 (by decide) (Nat.le_of_ble_eq_true rfl) g_a1 (l' := [(nar .byte ((q0).toInt32).toInt8.toInt32), (nar .byte (((XT.ushrL q0 (8 : Int32))).toInt32).toInt8.toInt32), (nar .byte (((XT.ushrL q0 (16 : Int32))).toInt32).toInt8.toInt32), (nar .byte (((XT.ushrL q0 (24 : Int32))).toInt32).toInt8.toInt32), (nar .byte (((XT.ushrL q0 (32 : Int32))).toInt32).toInt8.toInt32), 0, 0, 0]) rfl
  replace w : own_W K b0 Z n0 h5 1 8 53 #[.val (.long q0), .second, .val (.long q2), .second, .val (.int p4), .val (.int p5), .val (.int p6), .val (.int p7), .val (.ref a1), .unset, .unset, .unset, .unset, .unset, .unset, .unset] [] := w
  replace w : own_W K b0 Z n0 h5 1 8 55 #[.val (.long q0), .second, .val (.long q2), .second, .val (.int p4), .val (.int p5), .val (.int p6), .val (.int p7), .val (.ref a1), .unset, .unset, .unset, .unset, .unset, .unset, .unset] [(.ref a1)] := own_aload w at_53 rfl
  replace w : own_W K b0 Z n0 h5 1 8 56 #[.val (.long q0), .second, .val (.long q2), .second, .val (.int p4), .val (.int p5), .val (.int p6), .val (.int p7), .val (.ref a1), .unset, .unset, .unset, .unset, .unset, .unset, .unset] [(.int (5 : Int32)), (.ref a1)] := own_iconst w at_55 rfl
  replace w : own_W K b0 Z n0 h5 1 8 57 #[.val (.long q0), .second, .val (.long q2), .second, .val (.int p4), .val (.int p5), .val (.int p6), .val (.int p7), .val (.ref a1), .unset, .unset, .unset, .unset, .unset, .unset, .unset] [(.long q0), (.int (5 : Int32)), (.ref a1)] := own_lloadN w at_56 rfl
  replace w : own_W K b0 Z n0 h5 1 8 59 #[.val (.long q0), .second, .val (.long q2), .second, .val (.int p4), .val (.int p5), .val (.int p6), .val (.int p7), .val (.ref a1), .unset, .unset, .unset, .unset, .unset, .unset, .unset] [(.int (40 : Int32)), (.long q0), (.int (5 : Int32)), (.ref a1)] := own_bipush w at_57 rfl
  replace w : own_W K b0 Z n0 h5 1 8 60 #[.val (.long q0), .second, .val (.long q2), .second, .val (.int p4), .val (.int p5), .val (.int p6), .val (.int p7), .val (.ref a1), .unset, .unset, .unset, .unset, .unset, .unset, .unset] [(.long (XT.ushrL q0 (40 : Int32))), (.int (5 : Int32)), (.ref a1)] := own_lushr w at_59
  replace w : own_W K b0 Z n0 h5 1 8 61 #[.val (.long q0), .second, .val (.long q2), .second, .val (.int p4), .val (.int p5), .val (.int p6), .val (.int p7), .val (.ref a1), .unset, .unset, .unset, .unset, .unset, .unset, .unset] [(.int ((XT.ushrL q0 (40 : Int32))).toInt32), (.int (5 : Int32)), (.ref a1)] := own_l2i w at_60
  replace w : own_W K b0 Z n0 h5 1 8 62 #[.val (.long q0), .second, .val (.long q2), .second, .val (.int p4), .val (.int p5), .val (.int p6), .val (.int p7), .val (.ref a1), .unset, .unset, .unset, .unset, .unset, .unset, .unset] [(.int (((XT.ushrL q0 (40 : Int32))).toInt32).toInt8.toInt32), (.int (5 : Int32)), (.ref a1)] := own_i2b w at_61
  obtain ⟨h6, w, A_a1, K_h6⟩ := own_bastore w at_62 A_a1 5 (by decide) (Nat.le_of_ble_eq_true rfl) g_a1 (l' := [(nar .byte ((q0).toInt32).toInt8.toInt32), (nar .byte (((XT.ushrL q0 (8 : Int32))).toInt32).toInt8.toInt32), (nar .byte (((XT.ushrL q0 (16 : Int32))).toInt32).toInt8.toInt32), (nar .byte (((XT.ushrL q0 (24 : Int32))).toInt32).toInt8.toInt32), (nar .byte (((XT.ushrL q0 (32 : Int32))).toInt32).toInt8.toInt32), (nar .byte (((XT.ushrL q0 (40 : Int32))).toInt32).toInt8.toInt32), 0, 0]) rfl
  replace w : own_W K b0 Z n0 h6 1 8 63 #[.val (.long q0), .second, .val (.long q2), .second, .val (.int p4), .val (.int p5), .val (.int p6), .val (.int p7), .val (.ref a1), .unset, .unset, .unset, .unset, .unset, .unset, .unset] [] := w
  replace w : own_W K b0 Z n0 h6 1 8 65 #[.val (.long q0), .second, .val (.long q2), .second, .val (.int p4), .val (.int p5), .val (.int p6), .val (.int p7), .val (.ref a1), .unset, .unset, .unset, .unset, .unset, .unset, .unset] [(.ref a1)] := own_aload w at_63 rfl
  replace w : own_W K b0 Z n0 h6 1 8 67 #[.val (.long q0), .second, .val (.long q2), .second, .val (.int p4), .val (.int p5), .val (.int p6), .val (.int p7), .val (.ref a1), .unset, .unset, .unset, .unset, .unset, .unset, .unset] [(.int (6 : Int32)), (.ref a1)] := own_bipush w at_65 rfl
  replace w : own_W K b0 Z n0 h6 1 8 68 #[.val (.long q0), .second, .val (.long q2), .second, .val (.int p4), .val (.int p5), .val (.int p6), .val (.int p7), .val (.ref a1), .unset, .unset, .unset, .unset, .unset, .unset, .unset] [(.long q0), (.int (6 : Int32)), (.ref a1)] := own_lloadN w at_67 rfl
  replace w : own_W K b0 Z n0 h6 1 8 70 #[.val (.long q0), .second, .val (.long q2), .second, .val (.int p4), .val (.int p5), .val (.int p6), .val (.int p7), .val (.ref a1), .unset, .unset, .unset, .unset, .unset, .unset, .unset] [(.int (48 : Int32)), (.long q0), (.int (6 : Int32)), (.ref a1)] := own_bipush w at_68 rfl
  replace w : own_W K b0 Z n0 h6 1 8 71 #[.val (.long q0), .second, .val (.long q2), .second, .val (.int p4), .val (.int p5), .val (.int p6), .val (.int p7), .val (.ref a1), .unset, .unset, .unset, .unset, .unset, .unset, .unset] [(.long (XT.ushrL q0 (48 : Int32))), (.int (6 : Int32)), (.ref a1)] := own_lushr w at_70
  replace w : own_W K b0 Z n0 h6 1 8 72 #[.val (.long q0), .second, .val (.long q2), .second, .val (.int p4), .val (.int p5), .val (.int p6), .val (.int p7), .val (.ref a1), .unset, .unset, .unset, .unset, .unset, .unset, .unset] [(.int ((XT.ushrL q0 (48 : Int32))).toInt32), (.int (6 : Int32)), (.ref a1)] := own_l2i w at_71
  replace w : own_W K b0 Z n0 h6 1 8 73 #[.val (.long q0), .second, .val (.long q2), .second, .val (.int p4), .val (.int p5), .val (.int p6), .val (.int p7), .val (.ref a1), .unset, .unset, .unset, .unset, .unset, .unset, .unset] [(.int (((XT.ushrL q0 (48 : Int32))).toInt32).toInt8.toInt32), (.int (6 : Int32)), (.ref a1)] := own_i2b w at_72
  obtain ⟨h7, w, A_a1, K_h7⟩ := own_bastore w at_73 A_a1 6 (by decide) (Nat.le_of_ble_eq_true rfl) g_a1 (l' := [(nar .byte ((q0).toInt32).toInt8.toInt32), (nar .byte (((XT.ushrL q0 (8 : Int32))).toInt32).toInt8.toInt32), (nar .byte (((XT.ushrL q0 (16 : Int32))).toInt32).toInt8.toInt32), (nar .byte (((XT.ushrL q0 (24 : Int32))).toInt32).toInt8.toInt32), (nar .byte (((XT.ushrL q0 (32 : Int32))).toInt32).toInt8.toInt32), (nar .byte (((XT.ushrL q0 (40 : Int32))).toInt32).toInt8.toInt32), (nar .byte (((XT.ushrL q0 (48 : Int32))).toInt32).toInt8.toInt32), 0]) rfl
  replace w : own_W K b0 Z n0 h7 1 8 74 #[.val (.long q0), .second, .val (.long q2), .second, .val (.int p4), .val (.int p5), .val (.int p6), .val (.int p7), .val (.ref a1), .unset, .unset, .unset, .unset, .unset, .unset, .unset] [] := w
  replace w : own_W K b0 Z n0 h7 1 8 76 #[.val (.long q0), .second, .val (.long q2), .second, .val (.int p4), .val (.int p5), .val (.int p6), .val (.int p7), .val (.ref a1), .unset, .unset, .unset, .unset, .unset, .unset, .unset] [(.ref a1)] := own_aload w at_74 rfl
  replace w : own_W K b0 Z n0 h7 1 8 78 #[.val (.long q0), .second, .val (.long q2), .second, .val (.int p4), .val (.int p5), .val (.int p6), .val (.int p7), .val (.ref a1), .unset, .unset, .unset, .unset, .unset, .unset, .unset] [(.int (7 : Int32)), (.ref a1)] := own_bipush w at_76 rfl
  replace w : own_W K b0 Z n0 h7 1 8 79 #[.val (.long q0), .second, .val (.long q2), .second, .val (.int p4), .val (.int p5), .val (.int p6), .val (.int p7), .val (.ref a1), .unset, .unset, .unset, .unset, .unset, .unset, .unset] [(.long q0), (.int (7 : Int32)), (.ref a1)] := own_lloadN w at_78 rfl
  replace w : own_W K b0 Z n0 h7 1 8 81 #[.val (.long q0), .second, .val (.long q2), .second, .val (.int p4), .val (.int p5), .val (.int p6), .val (.int p7), .val (.ref a1), .unset, .unset, .unset, .unset, .unset, .unset, .unset] [(.int (56 : Int32)), (.long q0), (.int (7 : Int32)), (.ref a1)] := own_bipush w at_79 rfl
  replace w : own_W K b0 Z n0 h7 1 8 82 #[.val (.long q0), .second, .val (.long q2), .second, .val (.int p4), .val (.int p5), .val (.int p6), .val (.int p7), .val (.ref a1), .unset, .unset, .unset, .unset, .unset, .unset, .unset] [(.long (XT.ushrL q0 (56 : Int32))), (.int (7 : Int32)), (.ref a1)] := own_lushr w at_81
  replace w : own_W K b0 Z n0 h7 1 8 83 #[.val (.long q0), .second, .val (.long q2), .second, .val (.int p4), .val (.int p5), .val (.int p6), .val (.int p7), .val (.ref a1), .unset, .unset, .unset, .unset, .unset, .unset, .unset] [(.int ((XT.ushrL q0 (56 : Int32))).toInt32), (.int (7 : Int32)), (.ref a1)] := own_l2i w at_82
  replace w : own_W K b0 Z n0 h7 1 8 84 #[.val (.long q0), .second, .val (.long q2), .second, .val (.int p4), .val (.int p5), .val (.int p6), .val (.int p7), .val (.ref a1), .unset, .unset, .unset, .unset, .unset, .unset, .unset] [(.int (((XT.ushrL q0 (56 : Int32))).toInt32).toInt8.toInt32), (.int (7 : Int32)), (.ref a1)] := own_i2b w at_83
  obtain ⟨h8, w, A_a1, K_h8⟩ := own_bastore w at_84 A_a1 7 (by decide) (Nat.le_of_ble_eq_true rfl) g_a1 (l' := [(nar .byte ((q0).toInt32).toInt8.toInt32), (nar .byte (((XT.ushrL q0 (8 : Int32))).toInt32).toInt8.toInt32), (nar .byte (((XT.ushrL q0 (16 : Int32))).toInt32).toInt8.toInt32), (nar .byte (((XT.ushrL q0 (24 : Int32))).toInt32).toInt8.toInt32), (nar .byte (((XT.ushrL q0 (32 : Int32))).toInt32).toInt8.toInt32), (nar .byte (((XT.ushrL q0 (40 : Int32))).toInt32).toInt8.toInt32), (nar .byte (((XT.ushrL q0 (48 : Int32))).toInt32).toInt8.toInt32), (nar .byte (((XT.ushrL q0 (56 : Int32))).toInt32).toInt8.toInt32)]) rfl
  replace w : own_W K b0 Z n0 h8 1 8 85 #[.val (.long q0), .second, .val (.long q2), .second, .val (.int p4), .val (.int p5), .val (.int p6), .val (.int p7), .val (.ref a1), .unset, .unset, .unset, .unset, .unset, .unset, .unset] [] := w
  replace w : own_W K b0 Z n0 h8 1 8 86 #[.val (.long q0), .second, .val (.long q2), .second, .val (.int p4), .val (.int p5), .val (.int p6), .val (.int p7), .val (.ref a1), .unset, .unset, .unset, .unset, .unset, .unset, .unset] [(.int (4 : Int32))] := own_iconst w at_85 rfl
  obtain ⟨h_a2, a2, w, s_a2, g_a2, E_a2, A_a2⟩ := own_newI w at_86 (hw _ (List.mem_of_getElem? (i := 1) rfl)) rfl 4 4 (by decide) (Nat.le_refl _) (by decide) (by decide) (by decide) (l' := [0, 0, 0, 0]) rfl
  have ne_a1_a2 : a1 ≠ a2 := Nat.ne_of_lt (by rw [s_a2]; exact own_Alt A_a1)
  have ne_a2_a1 : a2 ≠ a1 := Ne.symm ne_a1_a2
  replace A_a1 := own_Aext A_a1 E_a2
  replace w : own_W K b0 Z n0 h_a2 2 12 88 #[.val (.long q0), .second, .val (.long q2), .second, .val (.int p4), .val (.int p5), .val (.int p6), .val (.int p7), .val (.ref a1), .unset, .unset, .unset, .unset, .unset, .unset, .unset] [(.ref a2)] := w
  replace A_a2 : own_A .char Z h_a2 a2 [0, 0, 0, 0] := A_a2
  replace w : own_W K b0 Z n0 h_a2 2 12 90 #[.val (.long q0), .second, .val (.long q2), .second, .val (.int p4), .val (.int p5), .val (.int p6), .val (.int p7), .val (.ref a1), .val (.ref a2), .unset, .unset, .unset, .unset, .unset, .unset] [] := own_astore w at_88 rfl
  replace w : own_W K b0 Z n0 h_a2 2 12 92 #[.val (.long q0), .second, .val (.long q2), .second, .val (.int p4), .val (.int p5), .val (.int p6), .val (.int p7), .val (.ref a1), .val (.ref a2), .unset, .unset, .unset, .unset, .unset, .unset] [(.ref a2)] := own_aload w at_90 rfl
  replace w : own_W K b0 Z n0 h_a2 2 12 93 #[.val (.long q0), .second, .val (.long q2), .second, .val (.int p4), .val (.int p5), .val (.int p6), .val (.int p7), .val (.ref a1), .val (.ref a2), .unset, .unset, .unset, .unset, .unset, .unset] [(.int (0 : Int32)), (.ref a2)] := own_iconst w at_92 rfl
  replace w : own_W K b0 Z n0 h_a2 2 12 94 #[.val (.long q0), .second, .val (.long q2), .second, .val (.int p4), .val (.int p5), .val (.int p6), .val (.int p7), .val (.ref a1), .val (.ref a2), .unset, .unset, .unset, .unset, .unset, .unset] [(.long q2), (.int (0 : Int32)), (.ref a2)] := own_lloadN w at_93 rfl
  replace w : own_W K b0 Z n0 h_a2 2 12 95 #[.val (.long q0), .second, .val (.long q2), .second, .val (.int p4), .val (.int p5), .val (.int p6), .val (.int p7), .val (.ref a1), .val (.ref a2), .unset, .unset, .unset, .unset, .unset, .unset] [(.int (q2).toInt32), (.int (0 : Int32)), (.ref a2)] := own_l2i w at_94
  replace w : own_W K b0 Z n0 h_a2 2 12 96 #[.val (.long q0), .second, .val (.long q2), .second, .val (.int p4), .val (.int p5), .val (.int p6), .val (.int p7), .val (.ref a1), .val (.ref a2), .unset, .unset, .unset, .unset, .unset, .unset] [(.int ((q2).toInt32).toUInt32.toUInt16.toUInt32.toInt32), (.int (0 : Int32)), (.ref a2)] := own_i2c w at_95
  obtain ⟨h9, w, A_a2, K_h9⟩ := own_castore w at_96 A_a2 0 (by decide) (Nat.le_of_ble_eq_true rfl) g_a2 (l' := [(nar .char ((q2).toInt32).toUInt32.toUInt16.toUInt32.toInt32), 0, 0, 0]) rfl
  replace A_a1 := own_Akeep A_a1 K_h9 (own_nin ne_a1_a2)
  replace w : own_W K b0 Z n0 h9 2 12 97 #[.val (.long q0), .second, .val (.long q2), .second, .val (.int p4), .val (.int p5), .val (.int p6), .val (.int p7), .val (.ref a1), .val (.ref a2), .unset, .unset, .unset, .unset, .unset, .unset] [] := w
  replace w : own_W K b0 Z n0 h9 2 12 99 #[.val (.long q0), .second, .val (.long q2), .second, .val (.int p4), .val (.int p5), .val (.int p6), .val (.int p7), .val (.ref a1), .val (.ref a2), .unset, .unset, .unset, .unset, .unset, .unset] [(.ref a2)] := own_aload w at_97 rfl
  replace w : own_W K b0 Z n0 h9 2 12 100 #[.val (.long q0), .second, .val (.long q2), .second, .val (.int p4), .val (.int p5), .val (.int p6), .val (.int p7), .val (.ref a1), .val (.ref a2), .unset, .unset, .unset, .unset, .unset, .unset] [(.int (1 : Int32)), (.ref a2)] := own_iconst w at_99 rfl
  replace w : own_W K b0 Z n0 h9 2 12 101 #[.val (.long q0), .second, .val (.long q2), .second, .val (.int p4), .val (.int p5), .val (.int p6), .val (.int p7), .val (.ref a1), .val (.ref a2), .unset, .unset, .unset, .unset, .unset, .unset] [(.long q2), (.int (1 : Int32)), (.ref a2)] := own_lloadN w at_100 rfl
  replace w : own_W K b0 Z n0 h9 2 12 103 #[.val (.long q0), .second, .val (.long q2), .second, .val (.int p4), .val (.int p5), .val (.int p6), .val (.int p7), .val (.ref a1), .val (.ref a2), .unset, .unset, .unset, .unset, .unset, .unset] [(.int (16 : Int32)), (.long q2), (.int (1 : Int32)), (.ref a2)] := own_bipush w at_101 rfl
  replace w : own_W K b0 Z n0 h9 2 12 104 #[.val (.long q0), .second, .val (.long q2), .second, .val (.int p4), .val (.int p5), .val (.int p6), .val (.int p7), .val (.ref a1), .val (.ref a2), .unset, .unset, .unset, .unset, .unset, .unset] [(.long (XT.ushrL q2 (16 : Int32))), (.int (1 : Int32)), (.ref a2)] := own_lushr w at_103
  replace w : own_W K b0 Z n0 h9 2 12 105 #[.val (.long q0), .second, .val (.long q2), .second, .val (.int p4), .val (.int p5), .val (.int p6), .val (.int p7), .val (.ref a1), .val (.ref a2), .unset, .unset, .unset, .unset, .unset, .unset] [(.int ((XT.ushrL q2 (16 : Int32))).toInt32), (.int (1 : Int32)), (.ref a2)] := own_l2i w at_104
  replace w : own_W K b0 Z n0 h9 2 12 106 #[.val (.long q0), .second, .val (.long q2), .second, .val (.int p4), .val (.int p5), .val (.int p6), .val (.int p7), .val (.ref a1), .val (.ref a2), .unset, .unset, .unset, .unset, .unset, .unset] [(.int (((XT.ushrL q2 (16 : Int32))).toInt32).toUInt32.toUInt16.toUInt32.toInt32), (.int (1 : Int32)), (.ref a2)] := own_i2c w at_105
  obtain ⟨h10, w, A_a2, K_h10⟩ := own_castore w at_106 A_a2 1 (by decide) (Nat.le_of_ble_eq_true rfl) g_a2 (l' := [(nar .char ((q2).toInt32).toUInt32.toUInt16.toUInt32.toInt32), (nar .char (((XT.ushrL q2 (16 : Int32))).toInt32).toUInt32.toUInt16.toUInt32.toInt32), 0, 0]) rfl
  replace A_a1 := own_Akeep A_a1 K_h10 (own_nin ne_a1_a2)
  replace w : own_W K b0 Z n0 h10 2 12 107 #[.val (.long q0), .second, .val (.long q2), .second, .val (.int p4), .val (.int p5), .val (.int p6), .val (.int p7), .val (.ref a1), .val (.ref a2), .unset, .unset, .unset, .unset, .unset, .unset] [] := w
  replace w : own_W K b0 Z n0 h10 2 12 109 #[.val (.long q0), .second, .val (.long q2), .second, .val (.int p4), .val (.int p5), .val (.int p6), .val (.int p7), .val (.ref a1), .val (.ref a2), .unset, .unset, .unset, .unset, .unset, .unset] [(.ref a2)] := own_aload w at_107 rfl
  replace w : own_W K b0 Z n0 h10 2 12 110 #[.val (.long q0), .second, .val (.long q2), .second, .val (.int p4), .val (.int p5), .val (.int p6), .val (.int p7), .val (.ref a1), .val (.ref a2), .unset, .unset, .unset, .unset, .unset, .unset] [(.int (2 : Int32)), (.ref a2)] := own_iconst w at_109 rfl
  replace w : own_W K b0 Z n0 h10 2 12 111 #[.val (.long q0), .second, .val (.long q2), .second, .val (.int p4), .val (.int p5), .val (.int p6), .val (.int p7), .val (.ref a1), .val (.ref a2), .unset, .unset, .unset, .unset, .unset, .unset] [(.long q2), (.int (2 : Int32)), (.ref a2)] := own_lloadN w at_110 rfl
  replace w : own_W K b0 Z n0 h10 2 12 113 #[.val (.long q0), .second, .val (.long q2), .second, .val (.int p4), .val (.int p5), .val (.int p6), .val (.int p7), .val (.ref a1), .val (.ref a2), .unset, .unset, .unset, .unset, .unset, .unset] [(.int (32 : Int32)), (.long q2), (.int (2 : Int32)), (.ref a2)] := own_bipush w at_111 rfl
  replace w : own_W K b0 Z n0 h10 2 12 114 #[.val (.long q0), .second, .val (.long q2), .second, .val (.int p4), .val (.int p5), .val (.int p6), .val (.int p7), .val (.ref a1), .val (.ref a2), .unset, .unset, .unset, .unset, .unset, .unset] [(.long (XT.ushrL q2 (32 : Int32))), (.int (2 : Int32)), (.ref a2)] := own_lushr w at_113
  replace w : own_W K b0 Z n0 h10 2 12 115 #[.val (.long q0), .second, .val (.long q2), .second, .val (.int p4), .val (.int p5), .val (.int p6), .val (.int p7), .val (.ref a1), .val (.ref a2), .unset, .unset, .unset, .unset, .unset, .unset] [(.int ((XT.ushrL q2 (32 : Int32))).toInt32), (.int (2 : Int32)), (.ref a2)] := own_l2i w at_114
  replace w : own_W K b0 Z n0 h10 2 12 116 #[.val (.long q0), .second, .val (.long q2), .second, .val (.int p4), .val (.int p5), .val (.int p6), .val (.int p7), .val (.ref a1), .val (.ref a2), .unset, .unset, .unset, .unset, .unset, .unset] [(.int (((XT.ushrL q2 (32 : Int32))).toInt32).toUInt32.toUInt16.toUInt32.toInt32), (.int (2 : Int32)), (.ref a2)] := own_i2c w at_115
  obtain ⟨h11, w, A_a2, K_h11⟩ := own_castore w at_116 A_a2 2 (by decide) (Nat.le_of_ble_eq_true rfl) g_a2 (l' := [(nar .char ((q2).toInt32).toUInt32.toUInt16.toUInt32.toInt32), (nar .char (((XT.ushrL q2 (16 : Int32))).toInt32).toUInt32.toUInt16.toUInt32.toInt32), (nar .char (((XT.ushrL q2 (32 : Int32))).toInt32).toUInt32.toUInt16.toUInt32.toInt32), 0]) rfl
  replace A_a1 := own_Akeep A_a1 K_h11 (own_nin ne_a1_a2)
  replace w : own_W K b0 Z n0 h11 2 12 117 #[.val (.long q0), .second, .val (.long q2), .second, .val (.int p4), .val (.int p5), .val (.int p6), .val (.int p7), .val (.ref a1), .val (.ref a2), .unset, .unset, .unset, .unset, .unset, .unset] [] := w
  replace w : own_W K b0 Z n0 h11 2 12 119 #[.val (.long q0), .second, .val (.long q2), .second, .val (.int p4), .val (.int p5), .val (.int p6), .val (.int p7), .val (.ref a1), .val (.ref a2), .unset, .unset, .unset, .unset, .unset, .unset] [(.ref a2)] := own_aload w at_117 rfl
  replace w : own_W K b0 Z n0 h11 2 12 120 #[.val (.long q0), .second, .val (.long q2), .second, .val (.int p4), .val (.int p5), .val (.int p6), .val (.int p7), .val (.ref a1), .val (.ref a2), .unset, .unset, .unset, .unset, .unset, .unset] [(.int (3 : Int32)), (.ref a2)] := own_iconst w at_119 rfl
  replace w : own_W K b0 Z n0 h11 2 12 121 #[.val (.long q0), .second, .val (.long q2), .second, .val (.int p4), .val (.int p5), .val (.int p6), .val (.int p7), .val (.ref a1), .val (.ref a2), .unset, .unset, .unset, .unset, .unset, .unset] [(.long q2), (.int (3 : Int32)), (.ref a2)] := own_lloadN w at_120 rfl
  replace w : own_W K b0 Z n0 h11 2 12 123 #[.val (.long q0), .second, .val (.long q2), .second, .val (.int p4), .val (.int p5), .val (.int p6), .val (.int p7), .val (.ref a1), .val (.ref a2), .unset, .unset, .unset, .unset, .unset, .unset] [(.int (48 : Int32)), (.long q2), (.int (3 : Int32)), (.ref a2)] := own_bipush w at_121 rfl
  replace w : own_W K b0 Z n0 h11 2 12 124 #[.val (.long q0), .second, .val (.long q2), .second, .val (.int p4), .val (.int p5), .val (.int p6), .val (.int p7), .val (.ref a1), .val (.ref a2), .unset, .unset, .unset, .unset, .unset, .unset] [(.long (XT.ushrL q2 (48 : Int32))), (.int (3 : Int32)), (.ref a2)] := own_lushr w at_123
  replace w : own_W K b0 Z n0 h11 2 12 125 #[.val (.long q0), .second, .val (.long q2), .second, .val (.int p4), .val (.int p5), .val (.int p6), .val (.int p7), .val (.ref a1), .val (.ref a2), .unset, .unset, .unset, .unset, .unset, .unset] [(.int ((XT.ushrL q2 (48 : Int32))).toInt32), (.int (3 : Int32)), (.ref a2)] := own_l2i w at_124
  replace w : own_W K b0 Z n0 h11 2 12 126 #[.val (.long q0), .second, .val (.long q2), .second, .val (.int p4), .val (.int p5), .val (.int p6), .val (.int p7), .val (.ref a1), .val (.ref a2), .unset, .unset, .unset, .unset, .unset, .unset] [(.int (((XT.ushrL q2 (48 : Int32))).toInt32).toUInt32.toUInt16.toUInt32.toInt32), (.int (3 : Int32)), (.ref a2)] := own_i2c w at_125
  obtain ⟨h12, w, A_a2, K_h12⟩ := own_castore w at_126 A_a2 3 (by decide) (Nat.le_of_ble_eq_true rfl) g_a2 (l' := [(nar .char ((q2).toInt32).toUInt32.toUInt16.toUInt32.toInt32), (nar .char (((XT.ushrL q2 (16 : Int32))).toInt32).toUInt32.toUInt16.toUInt32.toInt32), (nar .char (((XT.ushrL q2 (32 : Int32))).toInt32).toUInt32.toUInt16.toUInt32.toInt32), (nar .char (((XT.ushrL q2 (48 : Int32))).toInt32).toUInt32.toUInt16.toUInt32.toInt32)]) rfl
  replace A_a1 := own_Akeep A_a1 K_h12 (own_nin ne_a1_a2)
  replace w : own_W K b0 Z n0 h12 2 12 127 #[.val (.long q0), .second, .val (.long q2), .second, .val (.int p4), .val (.int p5), .val (.int p6), .val (.int p7), .val (.ref a1), .val (.ref a2), .unset, .unset, .unset, .unset, .unset, .unset] [] := w
  replace w : own_W K b0 Z n0 h12 2 12 128 #[.val (.long q0), .second, .val (.long q2), .second, .val (.int p4), .val (.int p5), .val (.int p6), .val (.int p7), .val (.ref a1), .val (.ref a2), .unset, .unset, .unset, .unset, .unset, .unset] [(.int (4 : Int32))] := own_iconst w at_127 rfl
  obtain ⟨h_a3, a3, w, s_a3, g_a3, E_a3, A_a3⟩ := own_newI w at_128 (hw _ (List.mem_of_getElem? (i := 1) rfl)) rfl 4 4 (by decide) (Nat.le_refl _) (by decide) (by decide) (by decide) (l' := [0, 0, 0, 0]) rfl
  have ne_a1_a3 : a1 ≠ a3 := Nat.ne_of_lt (by rw [s_a3]; exact own_Alt A_a1)
  have ne_a3_a1 : a3 ≠ a1 := Ne.symm ne_a1_a3
  have ne_a2_a3 : a2 ≠ a3 := Nat.ne_of_lt (by rw [s_a3]; exact own_Alt A_a2)
  have ne_a3_a2 : a3 ≠ a2 := Ne.symm ne_a2_a3
  replace A_a1 := own_Aext A_a1 E_a3
  replace A_a2 := own_Aext A_a2 E_a3
  replace w : own_W K b0 Z n0 h_a3 3 16 130 #[.val (.long q0), .second, .val (.long q2), .second, .val (.int p4), .val (.int p5), .val (.int p6), .val (.int p7), .val (.ref a1), .val (.ref a2), .unset, .unset, .unset, .unset, .unset, .unset] [(.ref a3)] := w
  replace A_a3 : own_A .char Z h_a3 a3 [0, 0, 0, 0] := A_a3
  replace w : own_W K b0 Z n0 h_a3 3 16 132 #[.val (.long q0), .second, .val (.long q2), .second, .val (.int p4), .val (.int p5), .val (.int p6), .val (.int p7), .val (.ref a1), .val (.ref a2), .val (.ref a3), .unset, .unset, .unset, .unset, .unset] [] := own_astore w at_130 rfl
  replace w : own_W K b0 Z n0 h_a3 3 16 134 #[.val (.long q0), .second, .val (.long q2), .second, .val (.int p4), .val (.int p5), .val (.int p6), .val (.int p7), .val (.ref a1), .val (.ref a2), .val (.ref a3), .unset, .unset, .unset, .unset, .unset] [(.ref a3)] := own_aload w at_132 rfl
  replace w : own_W K b0 Z n0 h_a3 3 16 135 #[.val (.long q0), .second, .val (.long q2), .second, .val (.int p4), .val (.int p5), .val (.int p6), .val (.int p7), .val (.ref a1), .val (.ref a2), .val (.ref a3), .unset, .unset, .unset, .unset, .unset] [(.int (0 : Int32)), (.ref a3)] := own_iconst w at_134 rfl
  replace w : own_W K b0 Z n0 h_a3 3 16 136 #[.val (.long q0), .second, .val (.long q2), .second, .val (.int p4), .val (.int p5), .val (.int p6), .val (.int p7), .val (.ref a1), .val (.ref a2), .val (.ref a3), .unset, .unset, .unset, .unset, .unset] [(.long q2), (.int (0 : Int32)), (.ref a3)] := own_lloadN w at_135 rfl
  replace w : own_W K b0 Z n0 h_a3 3 16 137 #[.val (.long q0), .second, .val (.long q2), .second, .val (.int p4), .val (.int p5), .val (.int p6), .val (.int p7), .val (.ref a1), .val (.ref a2), .val (.ref a3), .unset, .unset, .unset, .unset, .unset] [(.int (q2).toInt32), (.int (0 : Int32)), (.ref a3)] := own_l2i w at_136
  replace w : own_W K b0 Z n0 h_a3 3 16 138 #[.val (.long q0), .second, .val (.long q2), .second, .val (.int p4), .val (.int p5), .val (.int p6), .val (.int p7), .val (.ref a1), .val (.ref a2), .val (.ref a3), .unset, .unset, .unset, .unset, .unset] [(.int ((q2).toInt32).toUInt32.toUInt16.toUInt32.toInt32), (.int (0 : Int32)), (.ref a3)] := own_i2c w at_137
  obtain ⟨h13, w, A_a3, K_h13⟩ := own_castore w at_138 A_a3 0 (by decide) (Nat.le_of_ble_eq_true rfl) g_a3 (l' := [(nar .char ((q2).toInt32).toUInt32.toUInt16.toUInt32.toInt32), 0, 0, 0]) rfl
  replace A_a1 := own_Akeep A_a1 K_h13 (own_nin ne_a1_a3)
  replace A_a2 := own_Akeep A_a2 K_h13 (own_nin ne_a2_a3)
  replace w : own_W K b0 Z n0 h13 3 16 139 #[.val (.long q0), .second, .val (.long q2), .second, .val (.int p4), .val (.int p5), .val (.int p6), .val (.int p7), .val (.ref a1), .val (.ref a2), .val (.ref a3), .unset, .unset, .unset, .unset, .unset] [] := w
  replace w : own_W K b0 Z n0 h13 3 16 141 #[.val (.long q0), .second, .val (.long q2), .second, .val (.int p4), .val (.int p5), .val (.int p6), .val (.int p7), .val (.ref a1), .val (.ref a2), .val (.ref a3), .unset, .unset, .unset, .unset, .unset] [(.ref a3)] := own_aload w at_139 rfl
  replace w : own_W K b0 Z n0 h13 3 16 142 #[.val (.long q0), .second, .val (.long q2), .second, .val (.int p4), .val (.int p5), .val (.int p6), .val (.int p7), .val (.ref a1), .val (.ref a2), .val (.ref a3), .unset, .unset, .unset, .unset, .unset] [(.int (1 : Int32)), (.ref a3)] := own_iconst w at_141 rfl
  replace w : own_W K b0 Z n0 h13 3 16 143 #[.val (.long q0), .second, .val (.long q2), .second, .val (.int p4), .val (.int p5), .val (.int p6), .val (.int p7), .val (.ref a1), .val (.ref a2), .val (.ref a3), .unset, .unset, .unset, .unset, .unset] [(.long q2), (.int (1 : Int32)), (.ref a3)] := own_lloadN w at_142 rfl
  replace w : own_W K b0 Z n0 h13 3 16 145 #[.val (.long q0), .second, .val (.long q2), .second, .val (.int p4), .val (.int p5), .val (.int p6), .val (.int p7), .val (.ref a1), .val (.ref a2), .val (.ref a3), .unset, .unset, .unset, .unset, .unset] [(.int (16 : Int32)), (.long q2), (.int (1 : Int32)), (.ref a3)] := own_bipush w at_143 rfl
  replace w : own_W K b0 Z n0 h13 3 16 146 #[.val (.long q0), .second, .val (.long q2), .second, .val (.int p4), .val (.int p5), .val (.int p6), .val (.int p7), .val (.ref a1), .val (.ref a2), .val (.ref a3), .unset, .unset, .unset, .unset, .unset] [(.long (XT.ushrL q2 (16 : Int32))), (.int (1 : Int32)), (.ref a3)] := own_lushr w at_145
  replace w : own_W K b0 Z n0 h13 3 16 147 #[.val (.long q0), .second, .val (.long q2), .second, .val (.int p4), .val (.int p5), .val (.int p6), .val (.int p7), .val (.ref a1), .val (.ref a2), .val (.ref a3), .unset, .unset, .unset, .unset, .unset] [(.int ((XT.ushrL q2 (16 : Int32))).toInt32), (.int (1 : Int32)), (.ref a3)] := own_l2i w at_146
  replace w : own_W K b0 Z n0 h13 3 16 148 #[.val (.long q0), .second, .val (.long q2), .second, .val (.int p4), .val (.int p5), .val (.int p6), .val (.int p7), .val (.ref a1), .val (.ref a2), .val (.ref a3), .unset, .unset, .unset, .unset, .unset] [(.int (((XT.ushrL q2 (16 : Int32))).toInt32).toUInt32.toUInt16.toUInt32.toInt32), (.int (1 : Int32)), (.ref a3)] := own_i2c w at_147
  obtain ⟨h14, w, A_a3, K_h14⟩ := own_castore w at_148 A_a3 1 (by decide) (Nat.le_of_ble_eq_true rfl) g_a3 (l' := [(nar .char ((q2).toInt32).toUInt32.toUInt16.toUInt32.toInt32), (nar .char (((XT.ushrL q2 (16 : Int32))).toInt32).toUInt32.toUInt16.toUInt32.toInt32), 0, 0]) rfl
  replace A_a1 := own_Akeep A_a1 K_h14 (own_nin ne_a1_a3)
  replace A_a2 := own_Akeep A_a2 K_h14 (own_nin ne_a2_a3)
  replace w : own_W K b0 Z n0 h14 3 16 149 #[.val (.long q0), .second, .val (.long q2), .second, .val (.int p4), .val (.int p5), .val (.int p6), .val (.int p7), .val (.ref a1), .val (.ref a2), .val (.ref a3), .unset, .unset, .unset, .unset, .unset] [] := w
  replace w : own_W K b0 Z n0 h14 3 16 151 #[.val (.long q0), .second, .val (.long q2), .second, .val (.int p4), .val (.int p5), .val (.int p6), .val (.int p7), .val (.ref a1), .val (.ref a2), .val (.ref a3), .unset, .unset, .unset, .unset, .unset] [(.ref a3)] := own_aload w at_149 rfl
  replace w : own_W K b0 Z n0 h14 3 16 152 #[.val (.long q0), .second, .val (.long q2), .second, .val (.int p4), .val (.int p5), .val (.int p6), .val (.int p7), .val (.ref a1), .val (.ref a2), .val (.ref a3), .unset, .unset, .unset, .unset, .unset] [(.int (2 : Int32)), (.ref a3)] := own_iconst w at_151 rfl
  replace w : own_W K b0 Z n0 h14 3 16 153 #[.val (.long q0), .second, .val (.long q2), .second, .val (.int p4), .val (.int p5), .val (.int p6), .val (.int p7), .val (.ref a1), .val (.ref a2), .val (.ref a3), .unset, .unset, .unset, .unset, .unset] [(.long q2), (.int (2 : Int32)), (.ref a3)] := own_lloadN w at_152 rfl
  replace w : own_W K b0 Z n0 h14 3 16 155 #[.val (.long q0), .second, .val (.long q2), .second, .val (.int p4), .val (.int p5), .val (.int p6), .val (.int p7), .val (.ref a1), .val (.ref a2), .val (.ref a3), .unset, .unset, .unset, .unset, .unset] [(.int (32 : Int32)), (.long q2), (.int (2 : Int32)), (.ref a3)] := own_bipush w at_153 rfl
  replace w : own_W K b0 Z n0 h14 3 16 156 #[.val (.long q0), .second, .val (.long q2), .second, .val (.int p4), .val (.int p5), .val (.int p6), .val (.int p7), .val (.ref a1), .val (.ref a2), .val (.ref a3), .unset, .unset, .unset, .unset, .unset] [(.long (XT.ushrL q2 (32 : Int32))), (.int (2 : Int32)), (.ref a3)] := own_lushr w at_155
  replace w : own_W K b0 Z n0 h14 3 16 157 #[.val (.long q0), .second, .val (.long q2), .second, .val (.int p4), .val (.int p5), .val (.int p6), .val (.int p7), .val (.ref a1), .val (.ref a2), .val (.ref a3), .unset, .unset, .unset, .unset, .unset] [(.int ((XT.ushrL q2 (32 : Int32))).toInt32), (.int (2 : Int32)), (.ref a3)] := own_l2i w at_156
  replace w : own_W K b0 Z n0 h14 3 16 158 #[.val (.long q0), .second, .val (.long q2), .second, .val (.int p4), .val (.int p5), .val (.int p6), .val (.int p7), .val (.ref a1), .val (.ref a2), .val (.ref a3), .unset, .unset, .unset, .unset, .unset] [(.int (((XT.ushrL q2 (32 : Int32))).toInt32).toUInt32.toUInt16.toUInt32.toInt32), (.int (2 : Int32)), (.ref a3)] := own_i2c w at_157
  obtain ⟨h15, w, A_a3, K_h15⟩ := own_castore w at_158 A_a3 2 (by decide) (Nat.le_of_ble_eq_true rfl) g_a3 (l' := [(nar .char ((q2).toInt32).toUInt32.toUInt16.toUInt32.toInt32), (nar .char (((XT.ushrL q2 (16 : Int32))).toInt32).toUInt32.toUInt16.toUInt32.toInt32), (nar .char (((XT.ushrL q2 (32 : Int32))).toInt32).toUInt32.toUInt16.toUInt32.toInt32), 0]) rfl
  replace A_a1 := own_Akeep A_a1 K_h15 (own_nin ne_a1_a3)
  replace A_a2 := own_Akeep A_a2 K_h15 (own_nin ne_a2_a3)
  replace w : own_W K b0 Z n0 h15 3 16 159 #[.val (.long q0), .second, .val (.long q2), .second, .val (.int p4), .val (.int p5), .val (.int p6), .val (.int p7), .val (.ref a1), .val (.ref a2), .val (.ref a3), .unset, .unset, .unset, .unset, .unset] [] := w
  replace w : own_W K b0 Z n0 h15 3 16 161 #[.val (.long q0), .second, .val (.long q2), .second, .val (.int p4), .val (.int p5), .val (.int p6), .val (.int p7), .val (.ref a1), .val (.ref a2), .val (.ref a3), .unset, .unset, .unset, .unset, .unset] [(.ref a3)] := own_aload w at_159 rfl
  replace w : own_W K b0 Z n0 h15 3 16 162 #[.val (.long q0), .second, .val (.long q2), .second, .val (.int p4), .val (.int p5), .val (.int p6), .val (.int p7), .val (.ref a1), .val (.ref a2), .val (.ref a3), .unset, .unset, .unset, .unset, .unset] [(.int (3 : Int32)), (.ref a3)] := own_iconst w at_161 rfl
  replace w : own_W K b0 Z n0 h15 3 16 163 #[.val (.long q0), .second, .val (.long q2), .second, .val (.int p4), .val (.int p5), .val (.int p6), .val (.int p7), .val (.ref a1), .val (.ref a2), .val (.ref a3), .unset, .unset, .unset, .unset, .unset] [(.long q2), (.int (3 : Int32)), (.ref a3)] := own_lloadN w at_162 rfl
  replace w : own_W K b0 Z n0 h15 3 16 165 #[.val (.long q0), .second, .val (.long q2), .second, .val (.int p4), .val (.int p5), .val (.int p6), .val (.int p7), .val (.ref a1), .val (.ref a2), .val (.ref a3), .unset, .unset, .unset, .unset, .unset] [(.int (48 : Int32)), (.long q2), (.int (3 : Int32)), (.ref a3)] := own_bipush w at_163 rfl
  replace w : own_W K b0 Z n0 h15 3 16 166 #[.val (.long q0), .second, .val (.long q2), .second, .val (.int p4), .val (.int p5), .val (.int p6), .val (.int p7), .val (.ref a1), .val (.ref a2), .val (.ref a3), .unset, .unset, .unset, .unset, .unset] [(.long (XT.ushrL q2 (48 : Int32))), (.int (3 : Int32)), (.ref a3)] := own_lushr w at_165
  replace w : own_W K b0 Z n0 h15 3 16 167 #[.val (.long q0), .second, .val (.long q2), .second, .val (.int p4), .val (.int p5), .val (.int p6), .val (.int p7), .val (.ref a1), .val (.ref a2), .val (.ref a3), .unset, .unset, .unset, .unset, .unset] [(.int ((XT.ushrL q2 (48 : Int32))).toInt32), (.int (3 : Int32)), (.ref a3)] := own_l2i w at_166
  replace w : own_W K b0 Z n0 h15 3 16 168 #[.val (.long q0), .second, .val (.long q2), .second, .val (.int p4), .val (.int p5), .val (.int p6), .val (.int p7), .val (.ref a1), .val (.ref a2), .val (.ref a3), .unset, .unset, .unset, .unset, .unset] [(.int (((XT.ushrL q2 (48 : Int32))).toInt32).toUInt32.toUInt16.toUInt32.toInt32), (.int (3 : Int32)), (.ref a3)] := own_i2c w at_167
  obtain ⟨h16, w, A_a3, K_h16⟩ := own_castore w at_168 A_a3 3 (by decide) (Nat.le_of_ble_eq_true rfl) g_a3 (l' := [(nar .char ((q2).toInt32).toUInt32.toUInt16.toUInt32.toInt32), (nar .char (((XT.ushrL q2 (16 : Int32))).toInt32).toUInt32.toUInt16.toUInt32.toInt32), (nar .char (((XT.ushrL q2 (32 : Int32))).toInt32).toUInt32.toUInt16.toUInt32.toInt32), (nar .char (((XT.ushrL q2 (48 : Int32))).toInt32).toUInt32.toUInt16.toUInt32.toInt32)]) rfl
  replace A_a1 := own_Akeep A_a1 K_h16 (own_nin ne_a1_a3)
  replace A_a2 := own_Akeep A_a2 K_h16 (own_nin ne_a2_a3)
  replace w : own_W K b0 Z n0 h16 3 16 169 #[.val (.long q0), .second, .val (.long q2), .second, .val (.int p4), .val (.int p5), .val (.int p6), .val (.int p7), .val (.ref a1), .val (.ref a2), .val (.ref a3), .unset, .unset, .unset, .unset, .unset] [] := w
  obtain ⟨D, e_D⟩ : ∃ z : List Int32, z = [(nar .byte ((q0).toInt32).toInt8.toInt32), (nar .byte (((XT.ushrL q0 (8 : Int32))).toInt32).toInt8.toInt32), (nar .byte (((XT.ushrL q0 (16 : Int32))).toInt32).toInt8.toInt32), (nar .byte (((XT.ushrL q0 (24 : Int32))).toInt32).toInt8.toInt32), (nar .byte (((XT.ushrL q0 (32 : Int32))).toInt32).toInt8.toInt32), (nar .byte (((XT.ushrL q0 (40 : Int32))).toInt32).toInt8.toInt32), (nar .byte (((XT.ushrL q0 (48 : Int32))).toInt32).toInt8.toInt32), (nar .byte (((XT.ushrL q0 (56 : Int32))).toInt32).toInt8.toInt32)] := ⟨_, rfl⟩
  rw [← e_D] at A_a1
  have hD : D.length = 8 := by rw [e_D]; rfl
  obtain ⟨I, e_I⟩ : ∃ z : List Int32, z = [(nar .char ((q2).toInt32).toUInt32.toUInt16.toUInt32.toInt32), (nar .char (((XT.ushrL q2 (16 : Int32))).toInt32).toUInt32.toUInt16.toUInt32.toInt32), (nar .char (((XT.ushrL q2 (32 : Int32))).toInt32).toUInt32.toUInt16.toUInt32.toInt32), (nar .char (((XT.ushrL q2 (48 : Int32))).toInt32).toUInt32.toUInt16.toUInt32.toInt32)] := ⟨_, rfl⟩
  rw [← e_I] at A_a2 A_a3
  have hI : I.length = 4 := by rw [e_I]; rfl
  replace w : own_W K b0 Z n0 h16 3 16 171 #[.val (.long q0), .second, .val (.long q2), .second, .val (.int p4), .val (.int p5), .val (.int p6), .val (.int p7), .val (.ref a1), .val (.ref a2), .val (.ref a3), .unset, .unset, .unset, .unset, .unset] [(.int p4)] := own_iload w at_169 rfl
  replace w : own_W K b0 Z n0 h16 3 16 172 #[.val (.long q0), .second, .val (.long q2), .second, .val (.int p4), .val (.int p5), .val (.int p6), .val (.int p7), .val (.ref a1), .val (.ref a2), .val (.ref a3), .unset, .unset, .unset, .unset, .unset] [(.int (3 : Int32)), (.int p4)] := own_iconst w at_171 rfl
  replace w : own_W K b0 Z n0 h16 3 16 173 #[.val (.long q0), .second, .val (.long q2), .second, .val (.int p4), .val (.int p5), .val (.int p6), .val (.int p7), .val (.ref a1), .val (.ref a2), .val (.ref a3), .unset, .unset, .unset, .unset, .unset] [(.int (p4 &&& (3 : Int32)))] := own_iand w at_172
  obtain ⟨jA, e_jA⟩ : ∃ z : Int32, z = (p4 &&& (3 : Int32)) := ⟨_, rfl⟩
  rw [← e_jA] at w
  obtain ⟨A, hA, eA⟩ := own_and p4 3 3 (by decide)
  rw [← e_jA] at eA
  replace w : own_W K b0 Z n0 h16 3 16 175 #[.val (.long q0), .second, .val (.long q2), .second, .val (.int p4), .val (.int p5), .val (.int p6), .val (.int p7), .val (.ref a1), .val (.ref a2), .val (.ref a3), .val (.int jA), .unset, .unset, .unset, .unset] [] := own_istore w at_173 rfl
  replace w : own_W K b0 Z n0 h16 3 16 177 #[.val (.long q0), .second, .val (.long q2), .second, .val (.int p4), .val (.int p5), .val (.int p6), .val (.int p7), .val (.ref a1), .val (.ref a2), .val (.ref a3), .val (.int jA), .unset, .unset, .unset, .unset] [(.int p5)] := own_iload w at_175 rfl
  replace w : own_W K b0 Z n0 h16 3 16 179 #[.val (.long q0), .second, .val (.long q2), .second, .val (.int p4), .val (.int p5), .val (.int p6), .val (.int p7), .val (.ref a1), .val (.ref a2), .val (.ref a3), .val (.int jA), .unset, .unset, .unset, .unset] [(.int (7 : Int32)), (.int p5)] := own_bipush w at_177 rfl
  replace w : own_W K b0 Z n0 h16 3 16 180 #[.val (.long q0), .second, .val (.long q2), .second, .val (.int p4), .val (.int p5), .val (.int p6), .val (.int p7), .val (.ref a1), .val (.ref a2), .val (.ref a3), .val (.int jA), .unset, .unset, .unset, .unset] [(.int (p5 &&& (7 : Int32)))] := own_iand w at_179
  replace w : own_W K b0 Z n0 h16 3 16 181 #[.val (.long q0), .second, .val (.long q2), .second, .val (.int p4), .val (.int p5), .val (.int p6), .val (.int p7), .val (.ref a1), .val (.ref a2), .val (.ref a3), .val (.int jA), .unset, .unset, .unset, .unset] [(.int (5 : Int32)), (.int (p5 &&& (7 : Int32)))] := own_iconst w at_180 rfl
  replace w : own_W K b0 Z n0 h16 3 16 183 #[.val (.long q0), .second, .val (.long q2), .second, .val (.int p4), .val (.int p5), .val (.int p6), .val (.int p7), .val (.ref a1), .val (.ref a2), .val (.ref a3), .val (.int jA), .unset, .unset, .unset, .unset] [(.int jA), (.int (5 : Int32)), (.int (p5 &&& (7 : Int32)))] := own_iload w at_181 rfl
  replace w : own_W K b0 Z n0 h16 3 16 184 #[.val (.long q0), .second, .val (.long q2), .second, .val (.int p4), .val (.int p5), .val (.int p6), .val (.int p7), .val (.ref a1), .val (.ref a2), .val (.ref a3), .val (.int jA), .unset, .unset, .unset, .unset] [(.int ((5 : Int32) - jA)), (.int (p5 &&& (7 : Int32)))] := own_isub w at_183
  have e5A := own_dif (x := 5) (a := 5) (by decide) eA (by omega) (by omega)
  obtain ⟨c7, hc7, e7⟩ := own_and p5 7 7 (by decide)
  obtain ⟨hyC, C, hC, -, eC⟩ := own_rem e7 e5A (by omega)
  replace w : own_W K b0 Z n0 h16 3 16 185 #[.val (.long q0), .second, .val (.long q2), .second, .val (.int p4), .val (.int p5), .val (.int p6), .val (.int p7), .val (.ref a1), .val (.ref a2), .val (.ref a3), .val (.int jA), .unset, .unset, .unset, .unset] [(.int ((p5 &&& (7 : Int32)) % ((5 : Int32) - jA)))] := own_irem w at_184 hyC
  obtain ⟨jC, e_jC⟩ : ∃ z : Int32, z = ((p5 &&& (7 : Int32)) % ((5 : Int32) - jA)) := ⟨_, rfl⟩
  rw [← e_jC] at w
  rw [← e_jC] at eC
  replace w : own_W K b0 Z n0 h16 3 16 187 #[.val (.long q0), .second, .val (.long q2), .second, .val (.int p4), .val (.int p5), .val (.int p6), .val (.int p7), .val (.ref a1), .val (.ref a2), .val (.ref a3), .val (.int jA), .val (.int jC), .unset, .unset, .unset] [] := own_istore w at_185 rfl
  replace w : own_W K b0 Z n0 h16 3 16 189 #[.val (.long q0), .second, .val (.long q2), .second, .val (.int p4), .val (.int p5), .val (.int p6), .val (.int p7), .val (.ref a1), .val (.ref a2), .val (.ref a3), .val (.int jA), .val (.int jC), .unset, .unset, .unset] [(.int p7)] := own_iload w at_187 rfl
  replace w : own_W K b0 Z n0 h16 3 16 190 #[.val (.long q0), .second, .val (.long q2), .second, .val (.int p4), .val (.int p5), .val (.int p6), .val (.int p7), .val (.ref a1), .val (.ref a2), .val (.ref a3), .val (.int jA), .val (.int jC), .unset, .unset, .unset] [(.int (1 : Int32)), (.int p7)] := own_iconst w at_189 rfl
  replace w : own_W K b0 Z n0 h16 3 16 191 #[.val (.long q0), .second, .val (.long q2), .second, .val (.int p4), .val (.int p5), .val (.int p6), .val (.int p7), .val (.ref a1), .val (.ref a2), .val (.ref a3), .val (.int jA), .val (.int jC), .unset, .unset, .unset] [(.int (p7 &&& (1 : Int32)))] := own_iand w at_190
  obtain ⟨bp, hb, w⟩ : ∃ bp : Int32, (bp.toInt = 1 ∨ bp.toInt = 2) ∧ own_W K b0 Z n0 h16 3 16 199 #[.val (.long q0), .second, .val (.long q2), .second, .val (.int p4), .val (.int p5), .val (.int p6), .val (.int p7), .val (.ref a1), .val (.ref a2), .val (.ref a3), .val (.int jA), .val (.int jC), .unset, .unset, .unset] [(.int bp)] := by
    by_cases hc : (p7 &&& (1 : Int32)).toInt = 0
    · replace w : own_W K b0 Z n0 h16 3 16 194 #[.val (.long q0), .second, .val (.long q2), .second, .val (.int p4), .val (.int p5), .val (.int p6), .val (.int p7), .val (.ref a1), .val (.ref a2), .val (.ref a3), .val (.int jA), .val (.int jC), .unset, .unset, .unset] [] := own_ifN (a := (p7 &&& (1 : Int32)).toInt) w at_191 rfl hc
      replace w : own_W K b0 Z n0 h16 3 16 195 #[.val (.long q0), .second, .val (.long q2), .second, .val (.int p4), .val (.int p5), .val (.int p6), .val (.int p7), .val (.ref a1), .val (.ref a2), .val (.ref a3), .val (.int jA), .val (.int jC), .unset, .unset, .unset] [(.int (1 : Int32))] := own_iconst w at_194 rfl
      replace w : own_W K b0 Z n0 h16 3 16 199 #[.val (.long q0), .second, .val (.long q2), .second, .val (.int p4), .val (.int p5), .val (.int p6), .val (.int p7), .val (.ref a1), .val (.ref a2), .val (.ref a3), .val (.int jA), .val (.int jC), .unset, .unset, .unset] [(.int (1 : Int32))] := own_goto w at_195 (by decide) (by decide)
      exact ⟨_, Or.inl (by decide), w⟩
    · replace w : own_W K b0 Z n0 h16 3 16 198 #[.val (.long q0), .second, .val (.long q2), .second, .val (.int p4), .val (.int p5), .val (.int p6), .val (.int p7), .val (.ref a1), .val (.ref a2), .val (.ref a3), .val (.int jA), .val (.int jC), .unset, .unset, .unset] [] := own_ifY (a := (p7 &&& (1 : Int32)).toInt) w at_191 rfl hc (by decide) (by decide)
      replace w : own_W K b0 Z n0 h16 3 16 199 #[.val (.long q0), .second, .val (.long q2), .second, .val (.int p4), .val (.int p5), .val (.int p6), .val (.int p7), .val (.ref a1), .val (.ref a2), .val (.ref a3), .val (.int jA), .val (.int jC), .unset, .unset, .unset] [(.int (2 : Int32))] := own_iconst w at_198 rfl
      exact ⟨_, Or.inr (by decide), w⟩
  replace w : own_W K b0 Z n0 h16 3 16 201 #[.val (.long q0), .second, .val (.long q2), .second, .val (.int p4), .val (.int p5), .val (.int p6), .val (.int p7), .val (.ref a1), .val (.ref a2), .val (.ref a3), .val (.int jA), .val (.int jC), .val (.int bp), .unset, .unset] [] := own_istore w at_199 rfl
  replace w : own_W K b0 Z n0 h16 3 16 203 #[.val (.long q0), .second, .val (.long q2), .second, .val (.int p4), .val (.int p5), .val (.int p6), .val (.int p7), .val (.ref a1), .val (.ref a2), .val (.ref a3), .val (.int jA), .val (.int jC), .val (.int bp), .unset, .unset] [(.int p6)] := own_iload w at_201 rfl
  replace w : own_W K b0 Z n0 h16 3 16 205 #[.val (.long q0), .second, .val (.long q2), .second, .val (.int p4), .val (.int p5), .val (.int p6), .val (.int p7), .val (.ref a1), .val (.ref a2), .val (.ref a3), .val (.int jA), .val (.int jC), .val (.int bp), .unset, .unset] [(.int (2147483647 : Int32)), (.int p6)] := own_ldc w at_203 (hw _ (List.mem_of_getElem? (i := 2) rfl))
  replace w : own_W K b0 Z n0 h16 3 16 206 #[.val (.long q0), .second, .val (.long q2), .second, .val (.int p4), .val (.int p5), .val (.int p6), .val (.int p7), .val (.ref a1), .val (.ref a2), .val (.ref a3), .val (.int jA), .val (.int jC), .val (.int bp), .unset, .unset] [(.int (p6 &&& (2147483647 : Int32)))] := own_iand w at_205
  replace w : own_W K b0 Z n0 h16 3 16 208 #[.val (.long q0), .second, .val (.long q2), .second, .val (.int p4), .val (.int p5), .val (.int p6), .val (.int p7), .val (.ref a1), .val (.ref a2), .val (.ref a3), .val (.int jA), .val (.int jC), .val (.int bp), .unset, .unset] [(.int (9 : Int32)), (.int (p6 &&& (2147483647 : Int32)))] := own_bipush w at_206 rfl
  replace w : own_W K b0 Z n0 h16 3 16 210 #[.val (.long q0), .second, .val (.long q2), .second, .val (.int p4), .val (.int p5), .val (.int p6), .val (.int p7), .val (.ref a1), .val (.ref a2), .val (.ref a3), .val (.int jA), .val (.int jC), .val (.int bp), .unset, .unset] [(.int jC), (.int (9 : Int32)), (.int (p6 &&& (2147483647 : Int32)))] := own_iload w at_208 rfl
  replace w : own_W K b0 Z n0 h16 3 16 212 #[.val (.long q0), .second, .val (.long q2), .second, .val (.int p4), .val (.int p5), .val (.int p6), .val (.int p7), .val (.ref a1), .val (.ref a2), .val (.ref a3), .val (.int jA), .val (.int jC), .val (.int bp), .unset, .unset] [(.int bp), (.int jC), (.int (9 : Int32)), (.int (p6 &&& (2147483647 : Int32)))] := own_iload w at_210 rfl
  replace w : own_W K b0 Z n0 h16 3 16 213 #[.val (.long q0), .second, .val (.long q2), .second, .val (.int p4), .val (.int p5), .val (.int p6), .val (.int p7), .val (.ref a1), .val (.ref a2), .val (.ref a3), .val (.int jA), .val (.int jC), .val (.int bp), .unset, .unset] [(.int (jC * bp)), (.int (9 : Int32)), (.int (p6 &&& (2147483647 : Int32)))] := own_imul w at_212
  replace w : own_W K b0 Z n0 h16 3 16 214 #[.val (.long q0), .second, .val (.long q2), .second, .val (.int p4), .val (.int p5), .val (.int p6), .val (.int p7), .val (.ref a1), .val (.ref a2), .val (.ref a3), .val (.int jA), .val (.int jC), .val (.int bp), .unset, .unset] [(.int ((9 : Int32) - (jC * bp))), (.int (p6 &&& (2147483647 : Int32)))] := own_isub w at_213
  obtain ⟨M, hM, eM⟩ : ∃ M : Nat, (bp.toInt = 1 → M = C) ∧ (bp.toInt = 2 → M = 2 * C) ∧ (jC * bp).toInt = M := by
    rcases hb with hb | hb
    · exact ⟨C, fun _ => rfl, fun z => by omega, by rw [Jvm.Kit.i32_mul (by rw [hb]; omega) (by rw [hb]; omega), hb, eC]; omega⟩
    · exact ⟨2 * C, fun z => by omega, fun _ => rfl, by rw [Jvm.Kit.i32_mul (by rw [hb]; omega) (by rw [hb]; omega), hb, eC]; omega⟩
  obtain ⟨hM2, eM⟩ := eM
  have hM8 : M ≤ 8 := by
    rcases hb with hb | hb
    · have := hM hb; omega
    · have := hM2 hb; omega
  have e9 := own_dif (x := 9) (a := 9) (by decide) eM (by omega) (by omega)
  obtain ⟨c31, hc31, e31⟩ := own_and p6 2147483647 2147483647 (by decide)
  obtain ⟨hyO, O, hO, -, eO⟩ := own_rem e31 e9 (by omega)
  replace w : own_W K b0 Z n0 h16 3 16 215 #[.val (.long q0), .second, .val (.long q2), .second, .val (.int p4), .val (.int p5), .val (.int p6), .val (.int p7), .val (.ref a1), .val (.ref a2), .val (.ref a3), .val (.int jA), .val (.int jC), .val (.int bp), .unset, .unset] [(.int ((p6 &&& (2147483647 : Int32)) % ((9 : Int32) - (jC * bp))))] := own_irem w at_214 hyO
  obtain ⟨jO, e_jO⟩ : ∃ z : Int32, z = ((p6 &&& (2147483647 : Int32)) % ((9 : Int32) - (jC * bp))) := ⟨_, rfl⟩
  rw [← e_jO] at w
  rw [← e_jO] at eO
  have hO1 : bp.toInt = 1 → O + C ≤ 8 := fun z => by have := hM z; omega
  have hO2 : bp.toInt = 2 → O + 2 * C ≤ 8 := fun z => by have := hM2 z; omega
  replace w : own_W K b0 Z n0 h16 3 16 217 #[.val (.long q0), .second, .val (.long q2), .second, .val (.int p4), .val (.int p5), .val (.int p6), .val (.int p7), .val (.ref a1), .val (.ref a2), .val (.ref a3), .val (.int jA), .val (.int jC), .val (.int bp), .val (.int jO), .unset] [] := own_istore w at_215 rfl
  obtain ⟨h_o, o, w, s_o, g_o, E_o, X_o, D_o⟩ := own_newO w at_217 (hw _ (List.mem_of_getElem? (i := 3) rfl)) (hw _ (List.mem_of_getElem? (i := 4) rfl)) (hw _ (List.mem_of_getElem? (i := 5) rfl)) (by decide) (by decide)
  have F_o : Fld Z h_o o "com/example/orderwire/orderwire/bitmap/PixelStore$Chars" "values" "[C" .null := D_o (Or.inr (hw _ (List.mem_of_getElem? (i := 18) rfl))) (ty := .array .char) (by decide)
  have ne_a1_o : a1 ≠ o := Nat.ne_of_lt (by rw [s_o]; exact own_Alt A_a1)
  have ne_o_a1 : o ≠ a1 := Ne.symm ne_a1_o
  have ne_a2_o : a2 ≠ o := Nat.ne_of_lt (by rw [s_o]; exact own_Alt A_a2)
  have ne_o_a2 : o ≠ a2 := Ne.symm ne_a2_o
  have ne_a3_o : a3 ≠ o := Nat.ne_of_lt (by rw [s_o]; exact own_Alt A_a3)
  have ne_o_a3 : o ≠ a3 := Ne.symm ne_a3_o
  replace A_a1 := own_Aext A_a1 E_o
  replace A_a2 := own_Aext A_a2 E_o
  replace A_a3 := own_Aext A_a3 E_o
  replace w : own_W K b0 Z n0 h_o 4 17 220 #[.val (.long q0), .second, .val (.long q2), .second, .val (.int p4), .val (.int p5), .val (.int p6), .val (.int p7), .val (.ref a1), .val (.ref a2), .val (.ref a3), .val (.int jA), .val (.int jC), .val (.int bp), .val (.int jO), .unset] [(.ref o)] := w
  replace w : own_W K b0 Z n0 h_o 4 17 221 #[.val (.long q0), .second, .val (.long q2), .second, .val (.int p4), .val (.int p5), .val (.int p6), .val (.int p7), .val (.ref a1), .val (.ref a2), .val (.ref a3), .val (.int jA), .val (.int jC), .val (.int bp), .val (.int jO), .unset] [(.ref o), (.ref o)] := own_dup w at_220 rfl
  replace w : own_W K b0 Z n0 h_o 4 17 223 #[.val (.long q0), .second, .val (.long q2), .second, .val (.int p4), .val (.int p5), .val (.int p6), .val (.int p7), .val (.ref a1), .val (.ref a2), .val (.ref a3), .val (.int jA), .val (.int jC), .val (.int bp), .val (.int jO), .unset] [(.ref a3), (.ref o), (.ref o)] := own_aload w at_221 rfl
  obtain ⟨_, hi, ⟨rfl, F1, K1⟩, w⟩ := own_callI (By := b1) o [(.ref a3)] w rfl at_223 rfl rfl (hw _ (List.mem_of_getElem? (i := 6) rfl)) (hw _ (List.mem_of_getElem? (i := 7) rfl)) (hw _ (List.mem_of_getElem? (i := 5) rfl)) (hw _ (List.mem_of_getElem? (i := 8) rfl)) (rm1 hw o a3 F_o X_o g_o (own_size w)) (by decide) pd_1 rfl rfl (by decide) (Nat.le_of_ble_eq_true rfl) (by decide) (by decide)
  replace w : own_W K b0 Z n0 hi 4 17 226 #[.val (.long q0), .second, .val (.long q2), .second, .val (.int p4), .val (.int p5), .val (.int p6), .val (.int p7), .val (.ref a1), .val (.ref a2), .val (.ref a3), .val (.int jA), .val (.int jC), .val (.int bp), .val (.int jO), .unset] [(.ref o)] := w
  replace A_a1 := own_Akeep A_a1 K1 (own_nin ne_a1_o)
  replace A_a2 := own_Akeep A_a2 K1 (own_nin ne_a2_o)
  replace A_a3 := own_Akeep A_a3 K1 (own_nin ne_a3_o)
  have X1 := X_o.keep K1
  replace w : own_W K b0 Z n0 hi 4 17 228 #[.val (.long q0), .second, .val (.long q2), .second, .val (.int p4), .val (.int p5), .val (.int p6), .val (.int p7), .val (.ref a1), .val (.ref a2), .val (.ref a3), .val (.int jA), .val (.int jC), .val (.int bp), .val (.int jO), .val (.ref o)] [] := own_astore w at_226 rfl
  replace w : own_W K b0 Z n0 hi 4 17 230 #[.val (.long q0), .second, .val (.long q2), .second, .val (.int p4), .val (.int p5), .val (.int p6), .val (.int p7), .val (.ref a1), .val (.ref a2), .val (.ref a3), .val (.int jA), .val (.int jC), .val (.int bp), .val (.int jO), .val (.ref o)] [(.ref o)] := own_aload w at_228 rfl
  replace w : own_W K b0 Z n0 hi 4 17 232 #[.val (.long q0), .second, .val (.long q2), .second, .val (.int p4), .val (.int p5), .val (.int p6), .val (.int p7), .val (.ref a1), .val (.ref a2), .val (.ref a3), .val (.int jA), .val (.int jC), .val (.int bp), .val (.int jO), .val (.ref o)] [(.int jA), (.ref o)] := own_iload w at_230 rfl
  replace w : own_W K b0 Z n0 hi 4 17 234 #[.val (.long q0), .second, .val (.long q2), .second, .val (.int p4), .val (.int p5), .val (.int p6), .val (.int p7), .val (.ref a1), .val (.ref a2), .val (.ref a3), .val (.int jA), .val (.int jC), .val (.int bp), .val (.int jO), .val (.ref o)] [(.ref a1), (.int jA), (.ref o)] := own_aload w at_232 rfl
  replace w : own_W K b0 Z n0 hi 4 17 236 #[.val (.long q0), .second, .val (.long q2), .second, .val (.int p4), .val (.int p5), .val (.int p6), .val (.int p7), .val (.ref a1), .val (.ref a2), .val (.ref a3), .val (.int jA), .val (.int jC), .val (.int bp), .val (.int jO), .val (.ref o)] [(.int jO), (.ref a1), (.int jA), (.ref o)] := own_iload w at_234 rfl
  replace w : own_W K b0 Z n0 hi 4 17 238 #[.val (.long q0), .second, .val (.long q2), .second, .val (.int p4), .val (.int p5), .val (.int p6), .val (.int p7), .val (.ref a1), .val (.ref a2), .val (.ref a3), .val (.int jA), .val (.int jC), .val (.int bp), .val (.int jO), .val (.ref o)] [(.int jC), (.int jO), (.ref a1), (.int jA), (.ref o)] := own_iload w at_236 rfl
  replace w : own_W K b0 Z n0 hi 4 17 240 #[.val (.long q0), .second, .val (.long q2), .second, .val (.int p4), .val (.int p5), .val (.int p6), .val (.int p7), .val (.ref a1), .val (.ref a2), .val (.ref a3), .val (.int jA), .val (.int jC), .val (.int bp), .val (.int jO), .val (.ref o)] [(.int bp), (.int jC), (.int jO), (.ref a1), (.int jA), (.ref o)] := own_iload w at_238 rfl
  obtain ⟨_, hr, ⟨rfl, K2, A3⟩, w⟩ := own_callV (By := b4) o [(.int jA), (.ref a1), (.int jO), (.int jC), (.int bp)] w rfl at_240 X1 (hw _ (List.mem_of_getElem? (i := 19) rfl)) (hw _ (List.mem_of_getElem? (i := 20) rfl)) (hw _ (List.mem_of_getElem? (i := 21) rfl)) (hw _ (List.mem_of_getElem? (i := 22) rfl)) (hw _ (List.mem_of_getElem? (i := 5) rfl)) (hw _ (List.mem_of_getElem? (i := 23) rfl)) (rm4 hw o a3 a1 jA jO jC bp D A C O eA eO eC hD (by omega) g_a3 ne_o_a3 ne_a1_a3 I hI hb hO1 hO2 F1 A_a3 A_a1 (own_size w)) (by decide) pd_4 rfl rfl (by decide) (Nat.le_of_ble_eq_true rfl) (by decide) (by decide)
  replace w : own_W K b0 Z n0 hr 4 17 243 #[.val (.long q0), .second, .val (.long q2), .second, .val (.int p4), .val (.int p5), .val (.int p6), .val (.int p7), .val (.ref a1), .val (.ref a2), .val (.ref a3), .val (.int jA), .val (.int jC), .val (.int bp), .val (.int jO), .val (.ref o)] [] := w
  have X2 := X1.keep K2
  have F2 := F1.keep K2 (own_nin ne_o_a3)
  replace A_a1 := own_Akeep A_a1 K2 (own_nin ne_a1_a3)
  replace A_a2 := own_Akeep A_a2 K2 (own_nin ne_a2_a3)
  have hL : (own_fill (own_f D O bp.toInt) A C 0 I).length = 4 := by rw [own_fill_len]; exact hI
  replace w : own_W K b0 Z n0 hr 4 17 245 #[.val (.long q0), .second, .val (.long q2), .second, .val (.int p4), .val (.int p5), .val (.int p6), .val (.int p7), .val (.ref a1), .val (.ref a2), .val (.ref a3), .val (.int jA), .val (.int jC), .val (.int bp), .val (.int jO), .val (.ref o)] [(.ref o)] := own_aload w at_243 rfl
  obtain ⟨_, _, ⟨rfl, rfl⟩, w⟩ := own_callV (By := b5) o [] w rfl at_245 X2 (hw _ (List.mem_of_getElem? (i := 24) rfl)) (hw _ (List.mem_of_getElem? (i := 25) rfl)) (hw _ (List.mem_of_getElem? (i := 26) rfl)) (hw _ (List.mem_of_getElem? (i := 27) rfl)) (hw _ (List.mem_of_getElem? (i := 5) rfl)) (hw _ (List.mem_of_getElem? (i := 28) rfl)) (rm5 hw o a3 _ F2 A3 4 (by rw [hL]; rfl) (own_size w)) (by decide) pd_5 rfl rfl (by decide) (Nat.le_of_ble_eq_true rfl) (by decide) (by decide)
  replace w : own_W K b0 Z n0 hr 4 17 248 #[.val (.long q0), .second, .val (.long q2), .second, .val (.int p4), .val (.int p5), .val (.int p6), .val (.int p7), .val (.ref a1), .val (.ref a2), .val (.ref a3), .val (.int jA), .val (.int jC), .val (.int bp), .val (.int jO), .val (.ref o)] [(.int (4 : Int32))] := w
  replace w : own_W K b0 Z n0 hr 4 17 249 #[.val (.long q0), .second, .val (.long q2), .second, .val (.int p4), .val (.int p5), .val (.int p6), .val (.int p7), .val (.ref a1), .val (.ref a2), .val (.ref a3), .val (.int jA), .val (.int jC), .val (.int bp), .val (.int jO), .val (.ref o)] [(.int (4 : Int32)), (.int (4 : Int32))] := own_iconst w at_248 rfl
  replace w : own_W K b0 Z n0 hr 4 17 252 #[.val (.long q0), .second, .val (.long q2), .second, .val (.int p4), .val (.int p5), .val (.int p6), .val (.int p7), .val (.ref a1), .val (.ref a2), .val (.ref a3), .val (.int jA), .val (.int jC), .val (.int bp), .val (.int jO), .val (.ref o)] [] := own_icmpN (a := 4) (b := 4) w at_249 (by decide) (by decide) rfl
  replace w : own_W K b0 Z n0 hr 4 17 254 #[.val (.long q0), .second, .val (.long q2), .second, .val (.int p4), .val (.int p5), .val (.int p6), .val (.int p7), .val (.ref a1), .val (.ref a2), .val (.ref a3), .val (.int jA), .val (.int jC), .val (.int bp), .val (.int jO), .val (.ref o)] [(.ref o)] := own_aload w at_252 rfl
  replace w : own_W K b0 Z n0 hr 4 17 255 #[.val (.long q0), .second, .val (.long q2), .second, .val (.int p4), .val (.int p5), .val (.int p6), .val (.int p7), .val (.ref a1), .val (.ref a2), .val (.ref a3), .val (.int jA), .val (.int jC), .val (.int bp), .val (.int jO), .val (.ref o)] [(.int (0 : Int32)), (.ref o)] := own_iconst w at_254 rfl
  obtain ⟨_, _, ⟨rfl, rfl⟩, w⟩ := own_callV (By := b6) o [(.int (0 : Int32))] w rfl at_255 X2 (hw _ (List.mem_of_getElem? (i := 29) rfl)) (hw _ (List.mem_of_getElem? (i := 30) rfl)) (hw _ (List.mem_of_getElem? (i := 31) rfl)) (hw _ (List.mem_of_getElem? (i := 32) rfl)) (hw _ (List.mem_of_getElem? (i := 5) rfl)) (hw _ (List.mem_of_getElem? (i := 33) rfl)) (rm6 hw o a3 (0 : Int32) _ F2 A3 0 (by decide) (by omega) (own_size w)) (by decide) pd_6 rfl rfl (by decide) (Nat.le_of_ble_eq_true rfl) (by decide) (by decide)
  replace w : own_W K b0 Z n0 hr 4 17 258 #[.val (.long q0), .second, .val (.long q2), .second, .val (.int p4), .val (.int p5), .val (.int p6), .val (.int p7), .val (.ref a1), .val (.ref a2), .val (.ref a3), .val (.int jA), .val (.int jC), .val (.int bp), .val (.int jO), .val (.ref o)] [(.int ((own_fill (own_f D O bp.toInt) A C 0 I).getD 0 0))] := w
  replace w : own_W K b0 Z n0 hr 4 17 259 #[.val (.long q0), .second, .val (.long q2), .second, .val (.int p4), .val (.int p5), .val (.int p6), .val (.int p7), .val (.ref a1), .val (.ref a2), .val (.ref a3), .val (.int jA), .val (.int jC), .val (.int bp), .val (.int jO), .val (.ref o)] [(.int (0 : Int32)), (.int ((own_fill (own_f D O bp.toInt) A C 0 I).getD 0 0))] := own_iconst w at_258 rfl
  replace w : own_W K b0 Z n0 hr 4 17 261 #[.val (.long q0), .second, .val (.long q2), .second, .val (.int p4), .val (.int p5), .val (.int p6), .val (.int p7), .val (.ref a1), .val (.ref a2), .val (.ref a3), .val (.int jA), .val (.int jC), .val (.int bp), .val (.int jO), .val (.ref o)] [(.int jA), (.int (0 : Int32)), (.int ((own_fill (own_f D O bp.toInt) A C 0 I).getD 0 0))] := own_iload w at_259 rfl
  replace w : own_W K b0 Z n0 hr 4 17 263 #[.val (.long q0), .second, .val (.long q2), .second, .val (.int p4), .val (.int p5), .val (.int p6), .val (.int p7), .val (.ref a1), .val (.ref a2), .val (.ref a3), .val (.int jA), .val (.int jC), .val (.int bp), .val (.int jO), .val (.ref o)] [(.int jC), (.int jA), (.int (0 : Int32)), (.int ((own_fill (own_f D O bp.toInt) A C 0 I).getD 0 0))] := own_iload w at_261 rfl
  replace w : own_W K b0 Z n0 hr 4 17 265 #[.val (.long q0), .second, .val (.long q2), .second, .val (.int p4), .val (.int p5), .val (.int p6), .val (.int p7), .val (.ref a1), .val (.ref a2), .val (.ref a3), .val (.int jA), .val (.int jC), .val (.int bp), .val (.int jO), .val (.ref o)] [(.int bp), (.int jC), (.int jA), (.int (0 : Int32)), (.int ((own_fill (own_f D O bp.toInt) A C 0 I).getD 0 0))] := own_iload w at_263 rfl
  replace w : own_W K b0 Z n0 hr 4 17 267 #[.val (.long q0), .second, .val (.long q2), .second, .val (.int p4), .val (.int p5), .val (.int p6), .val (.int p7), .val (.ref a1), .val (.ref a2), .val (.ref a3), .val (.int jA), .val (.int jC), .val (.int bp), .val (.int jO), .val (.ref o)] [(.int jO), (.int bp), (.int jC), (.int jA), (.int (0 : Int32)), (.int ((own_fill (own_f D O bp.toInt) A C 0 I).getD 0 0))] := own_iload w at_265 rfl
  replace w : own_W K b0 Z n0 hr 4 17 269 #[.val (.long q0), .second, .val (.long q2), .second, .val (.int p4), .val (.int p5), .val (.int p6), .val (.int p7), .val (.ref a1), .val (.ref a2), .val (.ref a3), .val (.int jA), .val (.int jC), .val (.int bp), .val (.int jO), .val (.ref o)] [(.ref a1), (.int jO), (.int bp), (.int jC), (.int jA), (.int (0 : Int32)), (.int ((own_fill (own_f D O bp.toInt) A C 0 I).getD 0 0))] := own_aload w at_267 rfl
  replace w : own_W K b0 Z n0 hr 4 17 271 #[.val (.long q0), .second, .val (.long q2), .second, .val (.int p4), .val (.int p5), .val (.int p6), .val (.int p7), .val (.ref a1), .val (.ref a2), .val (.ref a3), .val (.int jA), .val (.int jC), .val (.int bp), .val (.int jO), .val (.ref o)] [(.ref a2), (.ref a1), (.int jO), (.int bp), (.int jC), (.int jA), (.int (0 : Int32)), (.int ((own_fill (own_f D O bp.toInt) A C 0 I).getD 0 0))] := own_aload w at_269 rfl
  obtain ⟨_, _, ⟨rfl, rfl⟩, w⟩ := own_callS (By := b7) [(.int (0 : Int32)), (.int jA), (.int jC), (.int bp), (.int jO), (.ref a1), (.ref a2)] w rfl at_271 (hw _ (List.mem_of_getElem? (i := 34) rfl)) (hw _ (List.mem_of_getElem? (i := 35) rfl)) (hw _ (List.mem_of_getElem? (i := 36) rfl)) (hw _ (List.mem_of_getElem? (i := 37) rfl)) (rm7 hw (0 : Int32) jA jC bp jO a1 a2 D I A_a1 A_a2 0 A C O (by decide) eA eC eO hb (by omega) hI hD (by omega) hO1 hO2 (own_size w)) (by decide) pd_7 rfl rfl (by decide) (Nat.le_of_ble_eq_true rfl) (by decide) (by decide)
  replace w : own_W K b0 Z n0 hr 4 17 274 #[.val (.long q0), .second, .val (.long q2), .second, .val (.int p4), .val (.int p5), .val (.int p6), .val (.int p7), .val (.ref a1), .val (.ref a2), .val (.ref a3), .val (.int jA), .val (.int jC), .val (.int bp), .val (.int jO), .val (.ref o)] [(.int (own_e D I A C O bp.toInt 0)), (.int ((own_fill (own_f D O bp.toInt) A C 0 I).getD 0 0))] := w
  replace w : own_W K b0 Z n0 hr 4 17 277 #[.val (.long q0), .second, .val (.long q2), .second, .val (.int p4), .val (.int p5), .val (.int p6), .val (.int p7), .val (.ref a1), .val (.ref a2), .val (.ref a3), .val (.int jA), .val (.int jC), .val (.int bp), .val (.int jO), .val (.ref o)] [] := own_icmpN w at_274 rfl rfl (congrArg Int32.toInt (own_law D I A C O bp.toInt 0 (by omega)))
  replace w : own_W K b0 Z n0 hr 4 17 279 #[.val (.long q0), .second, .val (.long q2), .second, .val (.int p4), .val (.int p5), .val (.int p6), .val (.int p7), .val (.ref a1), .val (.ref a2), .val (.ref a3), .val (.int jA), .val (.int jC), .val (.int bp), .val (.int jO), .val (.ref o)] [(.ref o)] := own_aload w at_277 rfl
  replace w : own_W K b0 Z n0 hr 4 17 280 #[.val (.long q0), .second, .val (.long q2), .second, .val (.int p4), .val (.int p5), .val (.int p6), .val (.int p7), .val (.ref a1), .val (.ref a2), .val (.ref a3), .val (.int jA), .val (.int jC), .val (.int bp), .val (.int jO), .val (.ref o)] [(.int (1 : Int32)), (.ref o)] := own_iconst w at_279 rfl
  obtain ⟨_, _, ⟨rfl, rfl⟩, w⟩ := own_callV (By := b6) o [(.int (1 : Int32))] w rfl at_280 X2 (hw _ (List.mem_of_getElem? (i := 29) rfl)) (hw _ (List.mem_of_getElem? (i := 30) rfl)) (hw _ (List.mem_of_getElem? (i := 31) rfl)) (hw _ (List.mem_of_getElem? (i := 32) rfl)) (hw _ (List.mem_of_getElem? (i := 5) rfl)) (hw _ (List.mem_of_getElem? (i := 33) rfl)) (rm6 hw o a3 (1 : Int32) _ F2 A3 1 (by decide) (by omega) (own_size w)) (by decide) pd_6 rfl rfl (by decide) (Nat.le_of_ble_eq_true rfl) (by decide) (by decide)
  replace w : own_W K b0 Z n0 hr 4 17 283 #[.val (.long q0), .second, .val (.long q2), .second, .val (.int p4), .val (.int p5), .val (.int p6), .val (.int p7), .val (.ref a1), .val (.ref a2), .val (.ref a3), .val (.int jA), .val (.int jC), .val (.int bp), .val (.int jO), .val (.ref o)] [(.int ((own_fill (own_f D O bp.toInt) A C 0 I).getD 1 0))] := w
  replace w : own_W K b0 Z n0 hr 4 17 284 #[.val (.long q0), .second, .val (.long q2), .second, .val (.int p4), .val (.int p5), .val (.int p6), .val (.int p7), .val (.ref a1), .val (.ref a2), .val (.ref a3), .val (.int jA), .val (.int jC), .val (.int bp), .val (.int jO), .val (.ref o)] [(.int (1 : Int32)), (.int ((own_fill (own_f D O bp.toInt) A C 0 I).getD 1 0))] := own_iconst w at_283 rfl
  replace w : own_W K b0 Z n0 hr 4 17 286 #[.val (.long q0), .second, .val (.long q2), .second, .val (.int p4), .val (.int p5), .val (.int p6), .val (.int p7), .val (.ref a1), .val (.ref a2), .val (.ref a3), .val (.int jA), .val (.int jC), .val (.int bp), .val (.int jO), .val (.ref o)] [(.int jA), (.int (1 : Int32)), (.int ((own_fill (own_f D O bp.toInt) A C 0 I).getD 1 0))] := own_iload w at_284 rfl
  replace w : own_W K b0 Z n0 hr 4 17 288 #[.val (.long q0), .second, .val (.long q2), .second, .val (.int p4), .val (.int p5), .val (.int p6), .val (.int p7), .val (.ref a1), .val (.ref a2), .val (.ref a3), .val (.int jA), .val (.int jC), .val (.int bp), .val (.int jO), .val (.ref o)] [(.int jC), (.int jA), (.int (1 : Int32)), (.int ((own_fill (own_f D O bp.toInt) A C 0 I).getD 1 0))] := own_iload w at_286 rfl
  replace w : own_W K b0 Z n0 hr 4 17 290 #[.val (.long q0), .second, .val (.long q2), .second, .val (.int p4), .val (.int p5), .val (.int p6), .val (.int p7), .val (.ref a1), .val (.ref a2), .val (.ref a3), .val (.int jA), .val (.int jC), .val (.int bp), .val (.int jO), .val (.ref o)] [(.int bp), (.int jC), (.int jA), (.int (1 : Int32)), (.int ((own_fill (own_f D O bp.toInt) A C 0 I).getD 1 0))] := own_iload w at_288 rfl
  replace w : own_W K b0 Z n0 hr 4 17 292 #[.val (.long q0), .second, .val (.long q2), .second, .val (.int p4), .val (.int p5), .val (.int p6), .val (.int p7), .val (.ref a1), .val (.ref a2), .val (.ref a3), .val (.int jA), .val (.int jC), .val (.int bp), .val (.int jO), .val (.ref o)] [(.int jO), (.int bp), (.int jC), (.int jA), (.int (1 : Int32)), (.int ((own_fill (own_f D O bp.toInt) A C 0 I).getD 1 0))] := own_iload w at_290 rfl
  replace w : own_W K b0 Z n0 hr 4 17 294 #[.val (.long q0), .second, .val (.long q2), .second, .val (.int p4), .val (.int p5), .val (.int p6), .val (.int p7), .val (.ref a1), .val (.ref a2), .val (.ref a3), .val (.int jA), .val (.int jC), .val (.int bp), .val (.int jO), .val (.ref o)] [(.ref a1), (.int jO), (.int bp), (.int jC), (.int jA), (.int (1 : Int32)), (.int ((own_fill (own_f D O bp.toInt) A C 0 I).getD 1 0))] := own_aload w at_292 rfl
  replace w : own_W K b0 Z n0 hr 4 17 296 #[.val (.long q0), .second, .val (.long q2), .second, .val (.int p4), .val (.int p5), .val (.int p6), .val (.int p7), .val (.ref a1), .val (.ref a2), .val (.ref a3), .val (.int jA), .val (.int jC), .val (.int bp), .val (.int jO), .val (.ref o)] [(.ref a2), (.ref a1), (.int jO), (.int bp), (.int jC), (.int jA), (.int (1 : Int32)), (.int ((own_fill (own_f D O bp.toInt) A C 0 I).getD 1 0))] := own_aload w at_294 rfl
  obtain ⟨_, _, ⟨rfl, rfl⟩, w⟩ := own_callS (By := b7) [(.int (1 : Int32)), (.int jA), (.int jC), (.int bp), (.int jO), (.ref a1), (.ref a2)] w rfl at_296 (hw _ (List.mem_of_getElem? (i := 34) rfl)) (hw _ (List.mem_of_getElem? (i := 35) rfl)) (hw _ (List.mem_of_getElem? (i := 36) rfl)) (hw _ (List.mem_of_getElem? (i := 37) rfl)) (rm7 hw (1 : Int32) jA jC bp jO a1 a2 D I A_a1 A_a2 1 A C O (by decide) eA eC eO hb (by omega) hI hD (by omega) hO1 hO2 (own_size w)) (by decide) pd_7 rfl rfl (by decide) (Nat.le_of_ble_eq_true rfl) (by decide) (by decide)
  replace w : own_W K b0 Z n0 hr 4 17 299 #[.val (.long q0), .second, .val (.long q2), .second, .val (.int p4), .val (.int p5), .val (.int p6), .val (.int p7), .val (.ref a1), .val (.ref a2), .val (.ref a3), .val (.int jA), .val (.int jC), .val (.int bp), .val (.int jO), .val (.ref o)] [(.int (own_e D I A C O bp.toInt 1)), (.int ((own_fill (own_f D O bp.toInt) A C 0 I).getD 1 0))] := w
  replace w : own_W K b0 Z n0 hr 4 17 302 #[.val (.long q0), .second, .val (.long q2), .second, .val (.int p4), .val (.int p5), .val (.int p6), .val (.int p7), .val (.ref a1), .val (.ref a2), .val (.ref a3), .val (.int jA), .val (.int jC), .val (.int bp), .val (.int jO), .val (.ref o)] [] := own_icmpN w at_299 rfl rfl (congrArg Int32.toInt (own_law D I A C O bp.toInt 1 (by omega)))
  replace w : own_W K b0 Z n0 hr 4 17 304 #[.val (.long q0), .second, .val (.long q2), .second, .val (.int p4), .val (.int p5), .val (.int p6), .val (.int p7), .val (.ref a1), .val (.ref a2), .val (.ref a3), .val (.int jA), .val (.int jC), .val (.int bp), .val (.int jO), .val (.ref o)] [(.ref o)] := own_aload w at_302 rfl
  replace w : own_W K b0 Z n0 hr 4 17 305 #[.val (.long q0), .second, .val (.long q2), .second, .val (.int p4), .val (.int p5), .val (.int p6), .val (.int p7), .val (.ref a1), .val (.ref a2), .val (.ref a3), .val (.int jA), .val (.int jC), .val (.int bp), .val (.int jO), .val (.ref o)] [(.int (2 : Int32)), (.ref o)] := own_iconst w at_304 rfl
  obtain ⟨_, _, ⟨rfl, rfl⟩, w⟩ := own_callV (By := b6) o [(.int (2 : Int32))] w rfl at_305 X2 (hw _ (List.mem_of_getElem? (i := 29) rfl)) (hw _ (List.mem_of_getElem? (i := 30) rfl)) (hw _ (List.mem_of_getElem? (i := 31) rfl)) (hw _ (List.mem_of_getElem? (i := 32) rfl)) (hw _ (List.mem_of_getElem? (i := 5) rfl)) (hw _ (List.mem_of_getElem? (i := 33) rfl)) (rm6 hw o a3 (2 : Int32) _ F2 A3 2 (by decide) (by omega) (own_size w)) (by decide) pd_6 rfl rfl (by decide) (Nat.le_of_ble_eq_true rfl) (by decide) (by decide)
  replace w : own_W K b0 Z n0 hr 4 17 308 #[.val (.long q0), .second, .val (.long q2), .second, .val (.int p4), .val (.int p5), .val (.int p6), .val (.int p7), .val (.ref a1), .val (.ref a2), .val (.ref a3), .val (.int jA), .val (.int jC), .val (.int bp), .val (.int jO), .val (.ref o)] [(.int ((own_fill (own_f D O bp.toInt) A C 0 I).getD 2 0))] := w
  replace w : own_W K b0 Z n0 hr 4 17 309 #[.val (.long q0), .second, .val (.long q2), .second, .val (.int p4), .val (.int p5), .val (.int p6), .val (.int p7), .val (.ref a1), .val (.ref a2), .val (.ref a3), .val (.int jA), .val (.int jC), .val (.int bp), .val (.int jO), .val (.ref o)] [(.int (2 : Int32)), (.int ((own_fill (own_f D O bp.toInt) A C 0 I).getD 2 0))] := own_iconst w at_308 rfl
  replace w : own_W K b0 Z n0 hr 4 17 311 #[.val (.long q0), .second, .val (.long q2), .second, .val (.int p4), .val (.int p5), .val (.int p6), .val (.int p7), .val (.ref a1), .val (.ref a2), .val (.ref a3), .val (.int jA), .val (.int jC), .val (.int bp), .val (.int jO), .val (.ref o)] [(.int jA), (.int (2 : Int32)), (.int ((own_fill (own_f D O bp.toInt) A C 0 I).getD 2 0))] := own_iload w at_309 rfl
  replace w : own_W K b0 Z n0 hr 4 17 313 #[.val (.long q0), .second, .val (.long q2), .second, .val (.int p4), .val (.int p5), .val (.int p6), .val (.int p7), .val (.ref a1), .val (.ref a2), .val (.ref a3), .val (.int jA), .val (.int jC), .val (.int bp), .val (.int jO), .val (.ref o)] [(.int jC), (.int jA), (.int (2 : Int32)), (.int ((own_fill (own_f D O bp.toInt) A C 0 I).getD 2 0))] := own_iload w at_311 rfl
  replace w : own_W K b0 Z n0 hr 4 17 315 #[.val (.long q0), .second, .val (.long q2), .second, .val (.int p4), .val (.int p5), .val (.int p6), .val (.int p7), .val (.ref a1), .val (.ref a2), .val (.ref a3), .val (.int jA), .val (.int jC), .val (.int bp), .val (.int jO), .val (.ref o)] [(.int bp), (.int jC), (.int jA), (.int (2 : Int32)), (.int ((own_fill (own_f D O bp.toInt) A C 0 I).getD 2 0))] := own_iload w at_313 rfl
  replace w : own_W K b0 Z n0 hr 4 17 317 #[.val (.long q0), .second, .val (.long q2), .second, .val (.int p4), .val (.int p5), .val (.int p6), .val (.int p7), .val (.ref a1), .val (.ref a2), .val (.ref a3), .val (.int jA), .val (.int jC), .val (.int bp), .val (.int jO), .val (.ref o)] [(.int jO), (.int bp), (.int jC), (.int jA), (.int (2 : Int32)), (.int ((own_fill (own_f D O bp.toInt) A C 0 I).getD 2 0))] := own_iload w at_315 rfl
  replace w : own_W K b0 Z n0 hr 4 17 319 #[.val (.long q0), .second, .val (.long q2), .second, .val (.int p4), .val (.int p5), .val (.int p6), .val (.int p7), .val (.ref a1), .val (.ref a2), .val (.ref a3), .val (.int jA), .val (.int jC), .val (.int bp), .val (.int jO), .val (.ref o)] [(.ref a1), (.int jO), (.int bp), (.int jC), (.int jA), (.int (2 : Int32)), (.int ((own_fill (own_f D O bp.toInt) A C 0 I).getD 2 0))] := own_aload w at_317 rfl
  replace w : own_W K b0 Z n0 hr 4 17 321 #[.val (.long q0), .second, .val (.long q2), .second, .val (.int p4), .val (.int p5), .val (.int p6), .val (.int p7), .val (.ref a1), .val (.ref a2), .val (.ref a3), .val (.int jA), .val (.int jC), .val (.int bp), .val (.int jO), .val (.ref o)] [(.ref a2), (.ref a1), (.int jO), (.int bp), (.int jC), (.int jA), (.int (2 : Int32)), (.int ((own_fill (own_f D O bp.toInt) A C 0 I).getD 2 0))] := own_aload w at_319 rfl
  obtain ⟨_, _, ⟨rfl, rfl⟩, w⟩ := own_callS (By := b7) [(.int (2 : Int32)), (.int jA), (.int jC), (.int bp), (.int jO), (.ref a1), (.ref a2)] w rfl at_321 (hw _ (List.mem_of_getElem? (i := 34) rfl)) (hw _ (List.mem_of_getElem? (i := 35) rfl)) (hw _ (List.mem_of_getElem? (i := 36) rfl)) (hw _ (List.mem_of_getElem? (i := 37) rfl)) (rm7 hw (2 : Int32) jA jC bp jO a1 a2 D I A_a1 A_a2 2 A C O (by decide) eA eC eO hb (by omega) hI hD (by omega) hO1 hO2 (own_size w)) (by decide) pd_7 rfl rfl (by decide) (Nat.le_of_ble_eq_true rfl) (by decide) (by decide)
  replace w : own_W K b0 Z n0 hr 4 17 324 #[.val (.long q0), .second, .val (.long q2), .second, .val (.int p4), .val (.int p5), .val (.int p6), .val (.int p7), .val (.ref a1), .val (.ref a2), .val (.ref a3), .val (.int jA), .val (.int jC), .val (.int bp), .val (.int jO), .val (.ref o)] [(.int (own_e D I A C O bp.toInt 2)), (.int ((own_fill (own_f D O bp.toInt) A C 0 I).getD 2 0))] := w
  replace w : own_W K b0 Z n0 hr 4 17 327 #[.val (.long q0), .second, .val (.long q2), .second, .val (.int p4), .val (.int p5), .val (.int p6), .val (.int p7), .val (.ref a1), .val (.ref a2), .val (.ref a3), .val (.int jA), .val (.int jC), .val (.int bp), .val (.int jO), .val (.ref o)] [] := own_icmpN w at_324 rfl rfl (congrArg Int32.toInt (own_law D I A C O bp.toInt 2 (by omega)))
  replace w : own_W K b0 Z n0 hr 4 17 329 #[.val (.long q0), .second, .val (.long q2), .second, .val (.int p4), .val (.int p5), .val (.int p6), .val (.int p7), .val (.ref a1), .val (.ref a2), .val (.ref a3), .val (.int jA), .val (.int jC), .val (.int bp), .val (.int jO), .val (.ref o)] [(.ref o)] := own_aload w at_327 rfl
  replace w : own_W K b0 Z n0 hr 4 17 330 #[.val (.long q0), .second, .val (.long q2), .second, .val (.int p4), .val (.int p5), .val (.int p6), .val (.int p7), .val (.ref a1), .val (.ref a2), .val (.ref a3), .val (.int jA), .val (.int jC), .val (.int bp), .val (.int jO), .val (.ref o)] [(.int (3 : Int32)), (.ref o)] := own_iconst w at_329 rfl
  obtain ⟨_, _, ⟨rfl, rfl⟩, w⟩ := own_callV (By := b6) o [(.int (3 : Int32))] w rfl at_330 X2 (hw _ (List.mem_of_getElem? (i := 29) rfl)) (hw _ (List.mem_of_getElem? (i := 30) rfl)) (hw _ (List.mem_of_getElem? (i := 31) rfl)) (hw _ (List.mem_of_getElem? (i := 32) rfl)) (hw _ (List.mem_of_getElem? (i := 5) rfl)) (hw _ (List.mem_of_getElem? (i := 33) rfl)) (rm6 hw o a3 (3 : Int32) _ F2 A3 3 (by decide) (by omega) (own_size w)) (by decide) pd_6 rfl rfl (by decide) (Nat.le_of_ble_eq_true rfl) (by decide) (by decide)
  replace w : own_W K b0 Z n0 hr 4 17 333 #[.val (.long q0), .second, .val (.long q2), .second, .val (.int p4), .val (.int p5), .val (.int p6), .val (.int p7), .val (.ref a1), .val (.ref a2), .val (.ref a3), .val (.int jA), .val (.int jC), .val (.int bp), .val (.int jO), .val (.ref o)] [(.int ((own_fill (own_f D O bp.toInt) A C 0 I).getD 3 0))] := w
  replace w : own_W K b0 Z n0 hr 4 17 334 #[.val (.long q0), .second, .val (.long q2), .second, .val (.int p4), .val (.int p5), .val (.int p6), .val (.int p7), .val (.ref a1), .val (.ref a2), .val (.ref a3), .val (.int jA), .val (.int jC), .val (.int bp), .val (.int jO), .val (.ref o)] [(.int (3 : Int32)), (.int ((own_fill (own_f D O bp.toInt) A C 0 I).getD 3 0))] := own_iconst w at_333 rfl
  replace w : own_W K b0 Z n0 hr 4 17 336 #[.val (.long q0), .second, .val (.long q2), .second, .val (.int p4), .val (.int p5), .val (.int p6), .val (.int p7), .val (.ref a1), .val (.ref a2), .val (.ref a3), .val (.int jA), .val (.int jC), .val (.int bp), .val (.int jO), .val (.ref o)] [(.int jA), (.int (3 : Int32)), (.int ((own_fill (own_f D O bp.toInt) A C 0 I).getD 3 0))] := own_iload w at_334 rfl
  replace w : own_W K b0 Z n0 hr 4 17 338 #[.val (.long q0), .second, .val (.long q2), .second, .val (.int p4), .val (.int p5), .val (.int p6), .val (.int p7), .val (.ref a1), .val (.ref a2), .val (.ref a3), .val (.int jA), .val (.int jC), .val (.int bp), .val (.int jO), .val (.ref o)] [(.int jC), (.int jA), (.int (3 : Int32)), (.int ((own_fill (own_f D O bp.toInt) A C 0 I).getD 3 0))] := own_iload w at_336 rfl
  replace w : own_W K b0 Z n0 hr 4 17 340 #[.val (.long q0), .second, .val (.long q2), .second, .val (.int p4), .val (.int p5), .val (.int p6), .val (.int p7), .val (.ref a1), .val (.ref a2), .val (.ref a3), .val (.int jA), .val (.int jC), .val (.int bp), .val (.int jO), .val (.ref o)] [(.int bp), (.int jC), (.int jA), (.int (3 : Int32)), (.int ((own_fill (own_f D O bp.toInt) A C 0 I).getD 3 0))] := own_iload w at_338 rfl
  replace w : own_W K b0 Z n0 hr 4 17 342 #[.val (.long q0), .second, .val (.long q2), .second, .val (.int p4), .val (.int p5), .val (.int p6), .val (.int p7), .val (.ref a1), .val (.ref a2), .val (.ref a3), .val (.int jA), .val (.int jC), .val (.int bp), .val (.int jO), .val (.ref o)] [(.int jO), (.int bp), (.int jC), (.int jA), (.int (3 : Int32)), (.int ((own_fill (own_f D O bp.toInt) A C 0 I).getD 3 0))] := own_iload w at_340 rfl
  replace w : own_W K b0 Z n0 hr 4 17 344 #[.val (.long q0), .second, .val (.long q2), .second, .val (.int p4), .val (.int p5), .val (.int p6), .val (.int p7), .val (.ref a1), .val (.ref a2), .val (.ref a3), .val (.int jA), .val (.int jC), .val (.int bp), .val (.int jO), .val (.ref o)] [(.ref a1), (.int jO), (.int bp), (.int jC), (.int jA), (.int (3 : Int32)), (.int ((own_fill (own_f D O bp.toInt) A C 0 I).getD 3 0))] := own_aload w at_342 rfl
  replace w : own_W K b0 Z n0 hr 4 17 346 #[.val (.long q0), .second, .val (.long q2), .second, .val (.int p4), .val (.int p5), .val (.int p6), .val (.int p7), .val (.ref a1), .val (.ref a2), .val (.ref a3), .val (.int jA), .val (.int jC), .val (.int bp), .val (.int jO), .val (.ref o)] [(.ref a2), (.ref a1), (.int jO), (.int bp), (.int jC), (.int jA), (.int (3 : Int32)), (.int ((own_fill (own_f D O bp.toInt) A C 0 I).getD 3 0))] := own_aload w at_344 rfl
  obtain ⟨_, _, ⟨rfl, rfl⟩, w⟩ := own_callS (By := b7) [(.int (3 : Int32)), (.int jA), (.int jC), (.int bp), (.int jO), (.ref a1), (.ref a2)] w rfl at_346 (hw _ (List.mem_of_getElem? (i := 34) rfl)) (hw _ (List.mem_of_getElem? (i := 35) rfl)) (hw _ (List.mem_of_getElem? (i := 36) rfl)) (hw _ (List.mem_of_getElem? (i := 37) rfl)) (rm7 hw (3 : Int32) jA jC bp jO a1 a2 D I A_a1 A_a2 3 A C O (by decide) eA eC eO hb (by omega) hI hD (by omega) hO1 hO2 (own_size w)) (by decide) pd_7 rfl rfl (by decide) (Nat.le_of_ble_eq_true rfl) (by decide) (by decide)
  replace w : own_W K b0 Z n0 hr 4 17 349 #[.val (.long q0), .second, .val (.long q2), .second, .val (.int p4), .val (.int p5), .val (.int p6), .val (.int p7), .val (.ref a1), .val (.ref a2), .val (.ref a3), .val (.int jA), .val (.int jC), .val (.int bp), .val (.int jO), .val (.ref o)] [(.int (own_e D I A C O bp.toInt 3)), (.int ((own_fill (own_f D O bp.toInt) A C 0 I).getD 3 0))] := w
  replace w : own_W K b0 Z n0 hr 4 17 352 #[.val (.long q0), .second, .val (.long q2), .second, .val (.int p4), .val (.int p5), .val (.int p6), .val (.int p7), .val (.ref a1), .val (.ref a2), .val (.ref a3), .val (.int jA), .val (.int jC), .val (.int bp), .val (.int jO), .val (.ref o)] [] := own_icmpN w at_349 rfl rfl (congrArg Int32.toInt (own_law D I A C O bp.toInt 3 (by omega)))
  replace w : own_W K b0 Z n0 hr 4 17 353 #[.val (.long q0), .second, .val (.long q2), .second, .val (.int p4), .val (.int p5), .val (.int p6), .val (.int p7), .val (.ref a1), .val (.ref a2), .val (.ref a3), .val (.int jA), .val (.int jC), .val (.int bp), .val (.int jO), .val (.ref o)] [(.int (1 : Int32))] := own_iconst w at_352 rfl
  replace w : own_W K b0 Z n0 hr 4 17 357 #[.val (.long q0), .second, .val (.long q2), .second, .val (.int p4), .val (.int p5), .val (.int p6), .val (.int p7), .val (.ref a1), .val (.ref a2), .val (.ref a3), .val (.int jA), .val (.int jC), .val (.int bp), .val (.int jO), .val (.ref o)] [(.int (1 : Int32))] := own_goto w at_353 (by decide) (by decide)
  exact own_retZ w at_357 rfl (Or.inl rfl) rfl (by decide) (by decide)
theorem rm0 {Z : State} {n0 : Nat} {h : Heap} {a0 : Array Value} (hw : ∀ d ∈ tables_1, d.before a0 Z = true) (q0 : Int64) (q2 : Int64) (p4 : Int32) (p5 : Int32) (p6 : Int32) (p7 : Int32) (hn : n0 ≤ h.size) : ∀ l, own_M l Z n0 b0 #[(.long q0), (.long q2), (.int p4), (.int p5), (.int p6), (.int p7)] h (fun v _ => v = some (.int 1)) :=
  fun l => own_enter hn pn_0 (ef_0 q0 q2 p4 p5 p6 p7) (fun K w => own_law0 hw q0 q2 p4 p5 p6 p7 w)
set_option maxRecDepth 65536 in
set_option maxHeartbeats 40000000 in
theorem comes_1 {Post : Tables → Env → Array Value → State → Outcome → State → Prop} (hpost : ∀ tb e args s v u, (limb_1_1.after args s (.returned v) u = true ∧ limb_1_2.after args s (.returned v) u = true ∧ True) → FrameEnd s (.returned v) u (Jvm.fieldLocs frame_1_writes args s ++ Jvm.arrayLocs frame_1_arrays args s ++ Jvm.staticLocs frame_1_statics s) 16 128 → Post tb e args s (.returned v) u) :
    ArmFor flags0 classFile x code maxLocals ret World_1 tables_1 room_1 Calls_1 rest_1 Pre_1 Post := by
  intro l hfl _ _ p e ha hc hk s m args below hf hA hF happ hP
  obtain ⟨hcalls, hrest, hpre⟩ := hP
  obtain ⟨-, -, -, hnamed, -, -, -, hat⟩ := (Spec.applies_iff hf).mp happ
  obtain ⟨hg, hn⟩ := and_e (Cond.before_iff.mp (show (Jvm.Cond.and given_1 narrow_1).before args s = true from hpre))
  obtain ⟨gc, t0⟩ := and_e hg
  obtain ⟨k0, t1⟩ := and_e t0
  obtain ⟨k1, t2⟩ := and_e t1
  obtain ⟨k2, t3⟩ := and_e t2
  obtain ⟨k3, t4⟩ := and_e t3
  obtain ⟨k4, t5⟩ := and_e t4
  have k5 := t5
  obtain ⟨w0, w1, w2, w3, w4, w5, rfl⟩ : ∃ w0 w1 w2 w3 w4 w5 : Value, args = #[w0, w1, w2, w3, w4, w5] := by
    have hs : args.size = 6 := by simpa [Cond.value, given_1] using gc
    obtain ⟨L⟩ := args
    match L, hs with
    | [w0, w1, w2, w3, w4, w5], _ => exact ⟨w0, w1, w2, w3, w4, w5, rfl⟩
  have hw := fun d (hd : d ∈ tables_1) => atoms_spec (ws := Jvm.Cond.code x code maxLocals ret :: tables_1) hat d (List.mem_cons_of_mem _ hd)
  obtain ⟨i0, ei0⟩ := isL_v k0
  obtain rfl : w0 = (.long i0) := Option.some.inj ei0
  obtain ⟨i1, ei1⟩ := isL_v k1
  obtain rfl : w1 = (.long i1) := Option.some.inj ei1
  obtain ⟨i2, ei2⟩ := is_v k2
  obtain rfl : w2 = (.int i2) := Option.some.inj ei2
  obtain ⟨i3, ei3⟩ := is_v k3
  obtain rfl : w3 = (.int i3) := Option.some.inj ei3
  obtain ⟨i4, ei4⟩ := is_v k4
  obtain rfl : w4 = (.int i4) := Option.some.inj ei4
  obtain ⟨i5, ei5⟩ := is_v k5
  obtain rfl : w5 = (.int i5) := Option.some.inj ei5
  obtain ⟨n, o, h1, h2, h3, _, L, rfl, ⟨rfl, N, -⟩, hq⟩ := rm0 (Z := s) (n0 := s.heap.size) (h := s.heap) hw i0 i1 i2 i3 i4 i5 (Nat.le_refl _) l tables_1 p e ha hc hk s m _ below hf ((Spec.applies_iff_loose hf).mp happ).1 ⟨rfl, State.Warmed39.refl s, rfl⟩ trivial
  refine ⟨n, _, h1, h2, h3, hpost _ _ _ _ _ _ ⟨Cond.after_iff.mpr rfl, Cond.after_iff.mpr (eq_i res_at (Term.int_eval (1)) rfl), trivial⟩ ⟨hq.1, hq.2.1, (hq.2.2.sift fun y hy => Or.inr (N y hy)).mono (by decide) (by decide)⟩⟩
theorem main_1_1 : Claimed_1_1 := comes_1 fun _ _ _ _ _ _ h hF => ⟨h.1, hF⟩
theorem main_1_2 : Claimed_1_2 := comes_1 fun _ _ _ _ _ _ h hF => ⟨h.2.1, hF⟩
end Jvm.Pilot.@@N@@
namespace Jvm.Pilot.@@N@@
open Jvm Jvm.ClassFile Sem Op Lib Jvm.Free Jvm.Stand Jvm.Pilot.@@N@@.Jvm.D
/-! MADE BY PROGRAM (witnessworld.py) out of the Statement's table words and the real class files: 12 classes; the members and pool entries that the words name. The judged class is class 1, her method 1. -/
namespace start1
open Jvm.ClassFile
def u (s : String) : CpInfo := .utf8 (stringToUtf16 s)
/-- a pool by its gaps: so many unusable entries, then the entry; so many at the end -/
def gap : Nat → List CpInfo → List CpInfo
  | 0, r => r
  | n + 1, r => .unusable :: gap n r
def poolList (es : List (Nat × CpInfo)) (last : Nat) : List CpInfo := es.foldr (fun e r => gap e.1 (e.2 :: r)) (gap last [])
def pool (es : List (Nat × CpInfo)) (last : Nat) : Array CpInfo := ⟨poolList es last⟩
def fileOf (pool : Array CpInfo) (this : Nat) (attrs : Array Attribute := #[]) (ms : Array MethodInfo := #[]) (fl : Nat := 33) (sup : Nat := 0) (ifs : Array Nat := #[]) (fds : Array FieldInfo := #[]) : ClassFile where
  minorVersion := 0
  majorVersion := 65
  constantPool := pool
  accessFlags := fl
  thisClass := this
  superClass := sup
  interfaces := ifs
  fields := fds
  methods := ms
  attributes := attrs
def plain (name : String) (sup : Option ClassId) : Class where
  name := name
  kind := .ordinary
  loader := none
  accessFlags := 33
  super := sup
  interfaces := #[]
  cf := none
  fields := #[]
  methods := #[]
  instanceTypes := #[]
  staticTypes := #[]
  resolved := #[]
  callSites := []
  init := .initialized
  statics := none
  mirror := none

def pool0 : Array CpInfo := pool [(5, u "<init>"), (0, u "()V"), (1, .class_ 10), (1, u "java/lang/Object")] 113

def k0c0 : Code := { maxStack := 0, maxLocals := 1, code := object_method_1_code, exceptionTable := #[], attributes := #[] }
def k0m0 : Method := { name := "<init>", desc := "()V", sig := { parameters := [], returnType := none }, accessFlags := 1, code := some k0c0 }
/-- java/lang/Object -/
def k0 : Class := { plain "java/lang/Object" none with
  accessFlags := 33
  interfaces := #[]
  cf := some (fileOf pool0 8 #[] #[{ accessFlags := 1, nameIndex := 5, descriptorIndex := 6, attributes := #[] }] 33 0 #[] #[])
  fields := #[]
  methods := #[k0m0]
  instanceTypes := #[]
  staticTypes := #[]
  resolved := Array.replicate 124 none
  statics := none }

def pool1 : Array CpInfo := pool [(2, .class_ 4), (1, u "java/lang/Object"), (0, u "<init>"), (0, u "()V"), (0, .integer 2147483647), (0, .class_ 9), (0, u "com/example/orderwire/orderwire/bitmap/PixelStore$Chars"), (0, .methodref 8 11), (0, .nameAndType 5 12), (0, u "([C)V"), (0, .methodref 8 14), (0, .nameAndType 15 16), (0, u "readLittleEndian"), (0, u "(I[BIII)V"), (0, .methodref 8 18), (0, .nameAndType 19 20), (0, u "length"), (0, u "()I"), (0, .methodref 8 22), (0, .nameAndType 23 24), (0, u "get"), (0, u "(I)I"), (0, .methodref 26 27), (0, .class_ 28), (0, .nameAndType 29 30), (0, u "com/example/orderwire/orderwire/bitmap/CharsReadLittleEndianPinLaw"), (0, u "expected"), (0, u "(IIIII[B[C)I"), (2, u "law"), (0, u "(JJIIII)Z")] 11

def k1m0 : Method := { name := "<init>", desc := "()V", sig := { parameters := [], returnType := none }, accessFlags := 2, code := none }
def k1c1 : Code := { maxStack := 8, maxLocals := 16, code := code, exceptionTable := #[], attributes := #[] }
def k1m1 : Method := { name := "law", desc := "(JJIIII)Z", sig := { parameters := [.long, .long, .int, .int, .int, .int], returnType := some .boolean }, accessFlags := 9, code := some k1c1 }
def k1c2 : Code := { maxStack := 5, maxLocals := 9, code := method_3_code, exceptionTable := #[], attributes := #[] }
def k1m2 : Method := { name := "expected", desc := "(IIIII[B[C)I", sig := { parameters := [.int, .int, .int, .int, .int, (.array .byte), (.array .char)], returnType := some .int }, accessFlags := 10, code := some k1c2 }
/-- com/example/orderwire/orderwire/bitmap/CharsReadLittleEndianPinLaw -/
def k1 : Class := { plain "com/example/orderwire/orderwire/bitmap/CharsReadLittleEndianPinLaw" (some 0) with
  accessFlags := 49
  interfaces := #[]
  cf := some (fileOf pool1 26 #[] #[{ accessFlags := 2, nameIndex := 5, descriptorIndex := 6, attributes := #[] }, { accessFlags := 9, nameIndex := 33, descriptorIndex := 34, attributes := #[] }, { accessFlags := 10, nameIndex := 29, descriptorIndex := 30, attributes := #[] }] 49 2 #[] #[])
  fields := #[]
  methods := #[k1m0, k1m1, k1m2]
  instanceTypes := #[]
  staticTypes := #[]
  resolved := Array.replicate 46 none
  statics := none }

def pool2 : Array CpInfo := pool [(1, .methodref 2 3), (0, .class_ 4), (0, .nameAndType 5 6), (0, u "java/lang/Object"), (0, u "<init>"), (0, u "()V"), (1, .class_ 10), (1, u "com/example/orderwire/orderwire/bitmap/PixelStore"), (4, .class_ 16), (0, u "com/example/orderwire/orderwire/bitmap/PixelStore$Chars"), (3, .class_ 21), (0, u "com/example/orderwire/orderwire/bitmap/PixelStore$Ints"), (19, u "FIRST_FILLED"), (0, u "I")] 31

def k2c0 : Code := { maxStack := 1, maxLocals := 1, code := prog_7_method_1_code, exceptionTable := #[], attributes := #[] }
def k2m0 : Method := { name := "<init>", desc := "()V", sig := { parameters := [], returnType := none }, accessFlags := 2, code := some k2c0 }
/-- com/example/orderwire/orderwire/bitmap/PixelStore -/
def k2 : Class := { plain "com/example/orderwire/orderwire/bitmap/PixelStore" (some 0) with
  accessFlags := 1057
  interfaces := #[]
  cf := some (fileOf pool2 8 #[.nestMembers #[20, 15]] #[{ accessFlags := 2, nameIndex := 5, descriptorIndex := 6, attributes := #[] }] 1057 2 #[] #[{ accessFlags := 26, nameIndex := 41, descriptorIndex := 42, attributes := #[] }])
  fields := #[{ name := "FIRST_FILLED", type := .int, accessFlags := 26, slot := 0, constantValue := 0 }]
  methods := #[k2m0]
  instanceTypes := #[]
  staticTypes := #[.int]
  resolved := Array.replicate 74 none
  statics := none }

def pool3 : Array CpInfo := pool [(1, .methodref 2 3), (0, .class_ 4), (0, .nameAndType 5 6), (0, u "com/example/orderwire/orderwire/bitmap/PixelStore"), (0, u "<init>"), (0, u "()V"), (0, .fieldref 8 9), (0, .class_ 10), (0, .nameAndType 11 12), (0, u "com/example/orderwire/orderwire/bitmap/PixelStore$Chars"), (0, u "values"), (0, u "[C"), (14, u "([C)V"), (2, u "length"), (0, u "()I"), (0, u "get"), (0, u "(I)I"), (13, u "readLittleEndian"), (0, u "(I[BIII)V")] 8

def k3c0 : Code := { maxStack := 2, maxLocals := 2, code := prog_8_method_1_code, exceptionTable := #[], attributes := #[] }
def k3m0 : Method := { name := "<init>", desc := "([C)V", sig := { parameters := [(.array .char)], returnType := none }, accessFlags := 0, code := some k3c0 }
def k3c1 : Code := { maxStack := 1, maxLocals := 1, code := prog_8_method_2_code, exceptionTable := #[], attributes := #[] }
def k3m1 : Method := { name := "length", desc := "()I", sig := { parameters := [], returnType := some .int }, accessFlags := 1, code := some k3c1 }
def k3c2 : Code := { maxStack := 2, maxLocals := 2, code := prog_8_method_3_code, exceptionTable := #[], attributes := #[] }
def k3m2 : Method := { name := "get", desc := "(I)I", sig := { parameters := [.int], returnType := some .int }, accessFlags := 1, code := some k3c2 }
def k3c3 : Code := { maxStack := 6, maxLocals := 8, code := prog_8_method_11_code, exceptionTable := #[], attributes := #[] }
def k3m3 : Method := { name := "readLittleEndian", desc := "(I[BIII)V", sig := { parameters := [.int, (.array .byte), .int, .int, .int], returnType := none }, accessFlags := 1, code := some k3c3 }
/-- com/example/orderwire/orderwire/bitmap/PixelStore$Chars -/
def k3 : Class := { plain "com/example/orderwire/orderwire/bitmap/PixelStore$Chars" (some 2) with
  accessFlags := 48
  interfaces := #[]
  cf := some (fileOf pool3 8 #[.nestHost 2] #[{ accessFlags := 0, nameIndex := 5, descriptorIndex := 27, attributes := #[] }, { accessFlags := 1, nameIndex := 30, descriptorIndex := 31, attributes := #[] }, { accessFlags := 1, nameIndex := 32, descriptorIndex := 33, attributes := #[] }, { accessFlags := 1, nameIndex := 47, descriptorIndex := 48, attributes := #[] }] 48 2 #[] #[{ accessFlags := 18, nameIndex := 11, descriptorIndex := 12, attributes := #[] }])
  fields := #[{ name := "values", type := (.array .char), accessFlags := 18, slot := 0, constantValue := 0 }]
  methods := #[k3m0, k3m1, k3m2, k3m3]
  instanceTypes := #[(.array .char)]
  staticTypes := #[]
  resolved := Array.replicate 57 none
  statics := none }

def pool4 : Array CpInfo := pool [(1, u "java/lang/Cloneable"), (0, .class_ 1), (0, u "java/lang/Object"), (0, .class_ 3)] 3

/-- java/lang/Cloneable -/
def k4 : Class := { plain "java/lang/Cloneable" (some 0) with
  accessFlags := 1537
  interfaces := #[]
  cf := some (fileOf pool4 2 #[] #[] 1537 4 #[] #[])
  fields := #[]
  methods := #[]
  instanceTypes := #[]
  staticTypes := #[]
  resolved := Array.replicate 8 none
  statics := none }

def pool5 : Array CpInfo := pool [(1, u "java/io/Serializable"), (0, .class_ 1), (0, u "java/lang/Object"), (0, .class_ 3)] 3

/-- java/io/Serializable -/
def k5 : Class := { plain "java/io/Serializable" (some 0) with
  accessFlags := 1537
  interfaces := #[]
  cf := some (fileOf pool5 2 #[] #[] 1537 4 #[] #[])
  fields := #[]
  methods := #[]
  instanceTypes := #[]
  staticTypes := #[]
  resolved := Array.replicate 8 none
  statics := none }

/-- the primitive byte -/
def k6 : Class := { plain "byte" none with kind := .primitive 'B', accessFlags := 0x411 }
/-- [B -/
def k7 : Class := { plain "[B" (some 0) with kind := .array 6 .byte, interfaces := #[4, 5], accessFlags := 1041 }

/-- the primitive char -/
def k8 : Class := { plain "char" none with kind := .primitive 'C', accessFlags := 0x411 }
/-- [C -/
def k9 : Class := { plain "[C" (some 0) with kind := .array 8 .char, interfaces := #[4, 5], accessFlags := 1041 }

/-- the primitive int -/
def k10 : Class := { plain "int" none with kind := .primitive 'I', accessFlags := 0x411 }
/-- [I -/
def k11 : Class := { plain "[I" (some 0) with kind := .array 10 .int, interfaces := #[4, 5], accessFlags := 1041 }

def heap : Heap := #[]
def classes : Array Class := #[k0, k1, k2, k3, k4, k5, k6, k7, k8, k9, k10, k11]
def interned : List (Array UInt16 × Addr) := []
def slotsUsed : Nat := 0
def theMethod : MethodId := ⟨1, 1⟩
def args0 : Array Value := #[.long 5, .long 6, .int 1, .int 2, .int 3, .int 4]
def aboutOver (below : List Frame) : State where
  vm := { classes := classes, interned := interned.toArray }
  heap := heap
  slotsUsed := slotsUsed
  threads := #[{ frames := .invoking theMethod args0 :: below }]
def below0 : List Frame := [.native { method := ⟨0, 0⟩, args := #[] }]
def about1 : State := aboutOver below0
def p0 : Program := .bare "" "" ""
def e0 : Env := launch0.env 0 0 0
theorem w_frames : about1.frames = Frame.invoking theMethod args0 :: below0 := rfl
set_option maxRecDepth 65536 in
theorem w_args : argsFit about1.vm theMethod args0 = true := by decide +kernel
set_option maxRecDepth 65536 in
theorem w_heap : heapFits about1 = true := by decide +kernel
set_option maxRecDepth 65536 in
theorem w_runnable : about1.curStatus? = some .runnable := by decide +kernel
set_option maxRecDepth 65536 in
theorem w_alone : about1.alone = true := by decide +kernel
set_option maxRecDepth 65536 in
theorem w_named : about1.methodNamed? x = some theMethod := by decide +kernel
set_option maxRecDepth 65536 in
theorem w_hears : about1.hears theMethod below0 = true := by decide +kernel
set_option maxRecDepth 65536 in
theorem w_ripe : about1.ripe theMethod args0 below0 = true := by decide +kernel
theorem w_running : about1.status = .running := rfl
set_option maxRecDepth 65536 in
theorem w_room : about1.hasRoom e0.platform room_1 = true :=
  launch0.hasRoom_least _ room_1 (by decide +kernel) (by decide +kernel) (by decide +kernel) (by decide +kernel) (by decide +kernel) (by decide +kernel)
theorem allAtoms_all (ts : List Jvm.Cond) (a : Array Jvm.Value) (st : Jvm.State) : (allAtoms ts).before a st = ts.all (fun c => c.before a st) := by
  induction ts with
  | nil => rfl
  | cons c t ih =>
    show (Jvm.Cond.and c (allAtoms t)).before a st = _
    rw [Jvm.Cond.before_and, ih, List.all_cons]
def words1 : List Jvm.Cond := Jvm.Cond.code x code maxLocals ret :: tables_1
/-- a 'code' word, met by the world's own term for the bytes: nothing is compared byte by byte -/
theorem code_word {y : MethodName} {bytes : ByteArray} {mx : Nat} {rt : Option FieldType} {a : Array Value} {s : State} {m : MethodId} {meth : Method} {c : Code} (h1 : s.methodNamed? y = some m) (h2 : s.vm.method? m = some meth) (h3 : meth.code = some c) (h4 : c.code = bytes)
    (h5 : (c.maxLocals == mx && c.exceptionTable.isEmpty && decide (c.maxStack ≤ mostOperands) && decide (meth.sig.returnType = rt) && !meth.locks && decide (parseMethodDescriptor y.desc = some meth.sig)) = true) : (Jvm.Cond.code y bytes mx rt).before a s = true := by
  simp only [Bool.and_eq_true, beq_iff_eq, Bool.not_eq_true', decide_eq_true_eq] at h5
  obtain ⟨⟨⟨⟨⟨g1, g2⟩, g3⟩, g4⟩, g5⟩, g6⟩ := h5
  simp [Cond.before, Cond.holds, Cond.value, h1, h2, h3, h4, g1, g2, g3, g4, g5, g6]
def isCode : Jvm.Cond → Bool
  | .code _ _ _ _ => true
  | _ => false
theorem all_split {L : List Jvm.Cond} {P : Jvm.Cond → Bool} (h1 : L.all (fun c => isCode c || P c) = true) (h2 : ∀ c ∈ L.filter isCode, P c = true) : L.all P = true := by
  refine List.all_eq_true.mpr fun c hc => ?_
  have h := List.all_eq_true.mp h1 c hc
  rcases Bool.eq_false_or_eq_true (isCode c) with hi | hi
  · exact h2 c (List.mem_filter.mpr ⟨hc, hi⟩)
  · simpa [hi] using h
set_option maxRecDepth 65536 in
theorem w_c0 : (Jvm.Cond.code x code maxLocals ret).before args0 about1 = true := code_word (m := ⟨1, 1⟩) (meth := k1m1) (c := k1c1) (by decide +kernel) rfl rfl rfl (by decide +kernel)
set_option maxRecDepth 65536 in
theorem w_c1 : (Jvm.Cond.code ({ cls := "com/example/orderwire/orderwire/bitmap/PixelStore$Chars", name := "<init>", desc := "([C)V" } : Jvm.MethodName) prog_8_method_1_code (2 : Nat) (Option.none : Option Jvm.ClassFile.FieldType)).before args0 about1 = true := code_word (m := ⟨3, 0⟩) (meth := k3m0) (c := k3c0) (by decide +kernel) rfl rfl rfl (by decide +kernel)
set_option maxRecDepth 65536 in
theorem w_c2 : (Jvm.Cond.code ({ cls := "com/example/orderwire/orderwire/bitmap/PixelStore", name := "<init>", desc := "()V" } : Jvm.MethodName) prog_7_method_1_code (1 : Nat) (Option.none : Option Jvm.ClassFile.FieldType)).before args0 about1 = true := code_word (m := ⟨2, 0⟩) (meth := k2m0) (c := k2c0) (by decide +kernel) rfl rfl rfl (by decide +kernel)
set_option maxRecDepth 65536 in
theorem w_c3 : (Jvm.Cond.code ({ cls := "java/lang/Object", name := "<init>", desc := "()V" } : Jvm.MethodName) object_method_1_code (1 : Nat) (Option.none : Option Jvm.ClassFile.FieldType)).before args0 about1 = true := code_word (m := ⟨0, 0⟩) (meth := k0m0) (c := k0c0) (by decide +kernel) rfl rfl rfl (by decide +kernel)
set_option maxRecDepth 65536 in
theorem w_c4 : (Jvm.Cond.code ({ cls := "com/example/orderwire/orderwire/bitmap/PixelStore$Chars", name := "readLittleEndian", desc := "(I[BIII)V" } : Jvm.MethodName) prog_8_method_11_code (8 : Nat) (Option.none : Option Jvm.ClassFile.FieldType)).before args0 about1 = true := code_word (m := ⟨3, 3⟩) (meth := k3m3) (c := k3c3) (by decide +kernel) rfl rfl rfl (by decide +kernel)
set_option maxRecDepth 65536 in
theorem w_c5 : (Jvm.Cond.code ({ cls := "com/example/orderwire/orderwire/bitmap/PixelStore$Chars", name := "length", desc := "()I" } : Jvm.MethodName) prog_8_method_2_code (1 : Nat) (Option.some Jvm.ClassFile.FieldType.int)).before args0 about1 = true := code_word (m := ⟨3, 1⟩) (meth := k3m1) (c := k3c1) (by decide +kernel) rfl rfl rfl (by decide +kernel)
set_option maxRecDepth 65536 in
theorem w_c6 : (Jvm.Cond.code ({ cls := "com/example/orderwire/orderwire/bitmap/PixelStore$Chars", name := "get", desc := "(I)I" } : Jvm.MethodName) prog_8_method_3_code (2 : Nat) (Option.some Jvm.ClassFile.FieldType.int)).before args0 about1 = true := code_word (m := ⟨3, 2⟩) (meth := k3m2) (c := k3c2) (by decide +kernel) rfl rfl rfl (by decide +kernel)
set_option maxRecDepth 65536 in
theorem w_c7 : (Jvm.Cond.code ({ cls := "com/example/orderwire/orderwire/bitmap/CharsReadLittleEndianPinLaw", name := "expected", desc := "(IIIII[B[C)I" } : Jvm.MethodName) method_3_code (9 : Nat) (Option.some Jvm.ClassFile.FieldType.int)).before args0 about1 = true := code_word (m := ⟨1, 2⟩) (meth := k1m2) (c := k1c2) (by decide +kernel) rfl rfl rfl (by decide +kernel)
def codes1 : List Jvm.Cond := [Jvm.Cond.code x code maxLocals ret, Jvm.Cond.code ({ cls := "com/example/orderwire/orderwire/bitmap/PixelStore$Chars", name := "<init>", desc := "([C)V" } : Jvm.MethodName) prog_8_method_1_code (2 : Nat) (Option.none : Option Jvm.ClassFile.FieldType), Jvm.Cond.code ({ cls := "com/example/orderwire/orderwire/bitmap/PixelStore", name := "<init>", desc := "()V" } : Jvm.MethodName) prog_7_method_1_code (1 : Nat) (Option.none : Option Jvm.ClassFile.FieldType), Jvm.Cond.code ({ cls := "java/lang/Object", name := "<init>", desc := "()V" } : Jvm.MethodName) object_method_1_code (1 : Nat) (Option.none : Option Jvm.ClassFile.FieldType), Jvm.Cond.code ({ cls := "com/example/orderwire/orderwire/bitmap/PixelStore$Chars", name := "readLittleEndian", desc := "(I[BIII)V" } : Jvm.MethodName) prog_8_method_11_code (8 : Nat) (Option.none : Option Jvm.ClassFile.FieldType), Jvm.Cond.code ({ cls := "com/example/orderwire/orderwire/bitmap/PixelStore$Chars", name := "length", desc := "()I" } : Jvm.MethodName) prog_8_method_2_code (1 : Nat) (Option.some Jvm.ClassFile.FieldType.int), Jvm.Cond.code ({ cls := "com/example/orderwire/orderwire/bitmap/PixelStore$Chars", name := "get", desc := "(I)I" } : Jvm.MethodName) prog_8_method_3_code (2 : Nat) (Option.some Jvm.ClassFile.FieldType.int), Jvm.Cond.code ({ cls := "com/example/orderwire/orderwire/bitmap/CharsReadLittleEndianPinLaw", name := "expected", desc := "(IIIII[B[C)I" } : Jvm.MethodName) method_3_code (9 : Nat) (Option.some Jvm.ClassFile.FieldType.int)]
set_option maxRecDepth 65536 in
theorem codes_eq : words1.filter isCode = codes1 := rfl
theorem w_codes : ∀ c ∈ words1.filter isCode, c.before args0 about1 = true := by
  rw [codes_eq]
  intro c hc
  simp only [codes1, List.mem_cons, List.not_mem_nil, or_false] at hc
  rcases hc with rfl | rfl | rfl | rfl | rfl | rfl | rfl | rfl
  · exact w_c0
  · exact w_c1
  · exact w_c2
  · exact w_c3
  · exact w_c4
  · exact w_c5
  · exact w_c6
  · exact w_c7
set_option maxRecDepth 65536 in
theorem w_t1 : (words1.take 24).all (fun c => isCode c || c.before args0 about1) = true := by decide +kernel
set_option maxRecDepth 65536 in
theorem w_t2 : (words1.drop 24).all (fun c => isCode c || c.before args0 about1) = true := by decide +kernel
theorem w_tables : (allAtoms (Jvm.Cond.code x code maxLocals ret :: tables_1)).before args0 about1 = true := by
  rw [allAtoms_all]
  show words1.all (fun c => c.before args0 about1) = true
  refine all_split ?_ w_codes
  rw [← List.take_append_drop 24 words1, List.all_append, w_t1, w_t2]
  rfl
set_option maxRecDepth 65536 in
theorem w_case : (Jvm.Cond.and given_1 narrow_1).before args0 about1 = true := by decide +kernel
theorem w_applies : (headSpec (Jvm.Cond.code x code maxLocals ret :: tables_1) room_1).applies x e0.platform about1 = true :=
  (Spec.applies_iff w_frames).mpr ⟨w_running, w_runnable, w_alone, w_named, w_hears, w_ripe, w_room, w_tables⟩
theorem atStart : AtStart classFile x code maxLocals ret World_1 tables_1 room_1 Calls_1 rest_1 Pre_1 launch0 p0 e0 about1 theMethod args0 below0 :=
  ⟨lists_1, trivial, launch0.admits_env _ _ _, launch0.least_env, fairChoices_fair.cas, fairChoices_fair.clock, w_frames, w_args, w_heap, w_applies, trivial, trivial, w_case⟩
end start1
theorem witness_1 : WitnessClaimed_1 := ⟨start1.p0, start1.e0, start1.about1, start1.theMethod, start1.args0, start1.below0, start1.atStart⟩
end Jvm.Pilot.@@N@@
