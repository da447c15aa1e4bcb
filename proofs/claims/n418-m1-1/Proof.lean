import JvmDerived
import JvmDerived.Pilot.@@N@@Statement
import JvmDerived.Pilot.@@N@@Code
set_option linter.unusedVariables false
set_option linter.unusedSimpArgs false
@@BLOCK:NumsL.lean.txt@@
@@BLOCK:Masks.lean.txt@@
namespace Jvm.Own
open Sem ClassFile Op Lib Jvm.Stand Jvm.Free Jvm.LawKit Jvm.RoadKit
/-! ## A program logic over an abstract heap: references count from the start's heap size. -/
def cv (k : Nat) : Value → Value
  | .ref i => .ref (k + i)
  | v => v
def cs (k : Nat) : Slot → Slot
  | .val v => .val (cv k v)
  | .unset => .unset
  | .second => .second
theorem cv_cat (k : Nat) (v : Value) : (cv k v).category = v.category := by cases v <;> rfl
theorem cv_isRef (k : Nat) (v : Value) : (cv k v).isRef = v.isRef := by cases v <;> rfl
theorem cv_fits (k : Nat) (t : FieldType) (v : Value) : fits t (cv k v) = fits t v := by cases v <;> cases t <;> rfl
theorem cv_narrow (k : Nat) (t : FieldType) (v : Value) : narrow t (cv k v) = cv k (narrow t v) := by cases v <;> cases t <;> rfl
theorem cv_default (k : Nat) (t : FieldType) : cv k (defaultValue t) = defaultValue t := by cases t <;> rfl
theorem cat_map (k : Nat) (S : List Value) : ((S.map (cv k)).map fun v => v.category) = S.map fun v => v.category := by
  rw [List.map_map]; exact List.map_congr_left fun v _ => cv_cat k v
/-- an object: the number of its class, its fields' values; or an array: its kind, its values -/
abbrev ACell := (Nat × List Value) ⊕ (FieldType × List Value)
abbrev AHeap := List ACell
/-- the classes: name, slots, fields (declaring class, name, descriptor, type) -/
abbrev KTab := List (String × Nat × List (String × String × String × FieldType))
/-- a method: name, bytes, max_locals, return type -/
abbrev Mth := MethodName × ByteArray × Nat × Option FieldType
def CellOk (Z : State) (K : KTab) (h : Heap) (a : Addr) : ACell → Prop
  | .inl (c, vs) => ∃ (C : String) (n : Nat) (fs : List (String × String × String × FieldType)), K[c]? = some (C, n, fs) ∧ vs.length = fs.length ∧ Exa Z h a C ∧ ∀ (j : Nat) (f : String × String × String × FieldType) (v : Value), fs[j]? = some f → vs[j]? = some v → Fld Z h a f.1 f.2.1 f.2.2.1 (cv Z.heap.size v)
  | .inr (ty, vs) => ∃ cell : Cell, Arr Z h a cell ty ∧ cell.slots = (vs.map (cv Z.heap.size)).toArray ∧ ∀ v ∈ vs, fits ty v = true
def Rel (Z : State) (K : KTab) (h : Heap) (H : AHeap) : Prop :=
  h.size = Z.heap.size + H.length ∧ ∀ (i : Nat) (c : ACell), H[i]? = some c → CellOk Z K h (Z.heap.size + i) c
def FOk (tb : List Cond) (C : String) (f : String × String × String × FieldType) : Prop :=
  (Cond.lays C f.1 f.2.1 f.2.2.1 ∈ tb ∨ Cond.laysFinal C f.1 f.2.1 f.2.2.1 ∈ tb) ∧ parseFieldDescriptor f.2.2.1 = some f.2.2.2
def KOk (tb : List Cond) (K : KTab) : Prop :=
  ∀ q ∈ K, Cond.instantiable q.1 q.2.1 ∈ tb ∧ (∀ f ∈ q.2.2, FOk tb q.1 f) ∧ (q.2.2.map fun f => f.2.1).Nodup
theorem KOk.nil {tb : List Cond} : KOk tb [] := fun _ h => nomatch h
theorem KOk.cons {tb : List Cond} {K : KTab} {q : String × Nat × List (String × String × String × FieldType)} (h1 : Cond.instantiable q.1 q.2.1 ∈ tb) (h2 : ∀ f ∈ q.2.2, FOk tb q.1 f) (h3 : (q.2.2.map fun f => f.2.1).Nodup) (h : KOk tb K) : KOk tb (q :: K) := fun x hx => by
  rcases List.mem_cons.mp hx with rfl | hx
  · exact ⟨h1, h2, h3⟩
  · exact h x hx
theorem fok0 {tb : List Cond} {C : String} : ∀ f ∈ ([] : List (String × String × String × FieldType)), FOk tb C f := fun _ h => nomatch h
theorem fokS {tb : List Cond} {C : String} {g : String × String × String × FieldType} {L : List (String × String × String × FieldType)} (h1 : FOk tb C g) (h2 : ∀ f ∈ L, FOk tb C f) : ∀ f ∈ g :: L, FOk tb C f := fun f hf => by
  rcases List.mem_cons.mp hf with rfl | hf
  · exact h1
  · exact h2 f hf
/-- where a walk stands -/
def Here (tb : List Cond) (K : KTab) (μ : Mth) (rm : Room) (H : AHeap) (Z : State) (a0 : Array Value) (p : Program) (l : Launch) (e : Env) (R : Room) (s : State) (m : MethodId) (args : Array Value) (below : List Frame) (meth : Method) (c : Code)
    (T : State) (locs : List Loc) (cells slots : Nat) : Prop :=
  Stand p l e R s m args below meth c T locs cells slots ∧ p.tables.exec = Jvm.exec ∧ Z.Warmed39 s.vm ∧ (∀ d ∈ tb, d.before a0 Z = true) ∧ c.code = μ.2.1 ∧ c.maxLocals = μ.2.2.1 ∧ meth.sig.returnType = μ.2.2.2 ∧ meth.name = μ.1.name ∧ meth.locks = false ∧
    s.vm.findClass μ.1.cls = some m.cls ∧ Rel Z K T.heap H ∧ Fr Z.heap.size locs ∧ rm.frames ≤ R.frames ∧ cells + rm.cells ≤ R.cells ∧ slots + rm.slots ≤ R.slots ∧ rm.locals ≤ R.locals
/-- how it ends -/
def Ends (K : KTab) (Q : Option Value → AHeap → Prop) (Z : State) (p : Program) (e : Env) (R : Room) (s : State) (below : List Frame) (T0 : State) : Prop :=
  ∃ (v : Option Value) (H' : AHeap) (T : State) (locs : List Loc) (fs : List Frame), Q v H' ∧ Steps p.tables e below T0 (T.setFrames fs) ∧ (T.setFrames fs).status = .running ∧ Ended (T.setFrames fs) below (.returned (v.map (cv Z.heap.size))) ∧
    s.WarmedH (T.setFrames fs).vm ∧ s.sameButNew ({ T.setFrames fs with vm := s.vm } : State) locs R.cells R.slots ∧ Fr Z.heap.size locs ∧ Rel Z K T.heap H'
/-- from the frame (pc, L, S) over the heap H the body returns, and Q -/
def W (tb : List Cond) (K : KTab) (μ : Mth) (rm : Room) (pc : Nat) (L : List Slot) (S : List Value) (H : AHeap) (Q : Option Value → AHeap → Prop) : Prop :=
  L.length = μ.2.2.1 → ∀ (Z : State) (a0 : Array Value) (p : Program) (l : Launch) (e : Env) (R : Room) (s : State) (m : MethodId) (args : Array Value) (below : List Frame) (meth : Method) (c : Code) (T : State) (locs : List Loc) (cells slots : Nat),
    Here tb K μ rm H Z a0 p l e R s m args below meth c T locs cells slots → Ends K Q Z p e R s below (T.setTop (mkF m pc (L.map (cs Z.heap.size)).toArray (S.map (cv Z.heap.size))))
/-- a call of μ comes back, and Q -/
def M (tb : List Cond) (K : KTab) (μ : Mth) (rm : Room) (as : List Value) (H : AHeap) (Q : Option Value → AHeap → Prop) : Prop :=
  ∀ (Z : State) (a0 : Array Value), (∀ d ∈ tb, d.before a0 Z = true) → ∀ (l : Launch) (h : Heap) (ws : List Cond), Rel Z K h H →
    MetFree l μ.1 (head1 (Cond.code μ.1 μ.2.1 μ.2.2.1 μ.2.2.2 :: ws) rm) (fun a U => a = (as.map (cv Z.heap.size)).toArray ∧ Z.Warmed39 U.vm ∧ U.heap = h) (fun _ _ _ _ _ => True)
      (fun _ U o U' => ∃ v L, o = .returned v ∧ (∃ v' H', v = v'.map (cv Z.heap.size) ∧ Rel Z K U'.heap H' ∧ Q v' H' ∧ Fr Z.heap.size L) ∧ FrameEnd U o U' L rm.cells rm.slots)
section Logic
variable {tb : List Cond} {K : KTab} {μ : Mth} {rm : Room} {pc : Nat} {L : List Slot} {S : List Value} {H : AHeap} {Q Q' : Option Value → AHeap → Prop}
theorem Ends.mono {Z : State} {p : Program} {e : Env} {R : Room} {s : State} {below : List Frame} {T0 : State} (h : Ends K Q Z p e R s below T0) (hq : ∀ v H, Q v H → Q' v H) : Ends K Q' Z p e R s below T0 := by
  obtain ⟨v, H', T, locs, fs, h1, r⟩ := h; exact ⟨v, H', T, locs, fs, hq _ _ h1, r⟩
theorem W.mono (h : W tb K μ rm pc L S H Q) (hq : ∀ v H, Q v H → Q' v H) : W tb K μ rm pc L S H Q' := fun hl Z a0 p l e R s m args below meth c T locs cells slots X => (h hl Z a0 p l e R s m args below meth c T locs cells slots X).mono hq
theorem M.mono {as : List Value} (h : M tb K μ rm as H Q) (hq : ∀ v H, Q v H → Q' v H) : M tb K μ rm as H Q' := fun Z a0 hw l h0 ws hr p e ha hc hk s m args below hf happ hP hK => by
  obtain ⟨n, o, h1, h2, h3, v, L, h4, ⟨v', H', h5, h6, h7, h8⟩, h9⟩ := h Z a0 hw l h0 ws hr p e ha hc hk s m args below hf happ hP hK
  exact ⟨n, o, h1, h2, h3, v, L, h4, ⟨v', H', h5, h6, hq _ _ h7, h8⟩, h9⟩
theorem Ends.steps {Z : State} {p : Program} {e : Env} {R : Room} {s : State} {below : List Frame} {T0 T1 : State} (st : ∀ target, Steps p.tables e below T1 target → Steps p.tables e below T0 target) (h : Ends K Q Z p e R s below T1) : Ends K Q Z p e R s below T0 := by
  obtain ⟨v, H', T, locs, fs, h1, h2, r⟩ := h; exact ⟨v, H', T, locs, fs, h1, st _ h2, r⟩
/-- a step that moves the frame alone -/
theorem W.pure {pc' : Nat} {L' : List Slot} {S' : List Value} (hl : L'.length = L.length)
    (st : ∀ (k : Nat) (p : Program) (e : Env) (m : MethodId) (below : List Frame) (c : Code) (T : State), At T m c below → p.tables.exec = Jvm.exec → c.code = μ.2.1 → ∀ target, Steps p.tables e below (T.setTop (mkF m pc' (L'.map (cs k)).toArray (S'.map (cv k)))) target → Steps p.tables e below (T.setTop (mkF m pc (L.map (cs k)).toArray (S.map (cv k)))) target)
    (h : W tb K μ rm pc' L' S' H Q) : W tb K μ rm pc L S H Q := fun hL Z a0 p l e R s m args below meth c T locs cells slots X =>
  (h (hl.trans hL) Z a0 p l e R s m args below meth c T locs cells slots X).steps (st _ p e m below c T X.1.here X.2.1 X.2.2.2.2.1)
theorem get_conc {k : Nat} {i : Nat} {v : Value} (h : L[i]? = some (.val v)) : (L.map (cs k)).toArray[i]? = some (.val (cv k v)) := by
  simp [h, cs]
theorem W.iload_n {i : Fin 4} {x : Int32} (hd : decode μ.2.1 pc = .ok (.iload_n i, 1)) (hl : L[i.val]? = some (.val (.int x))) (h : W tb K μ rm (pc + 1) L (.int x :: S) H Q) : W tb K μ rm pc L S H Q :=
  W.pure rfl (fun k p e m below c T hA hx hb' t ht => XS.iloadN hA hx rfl (hb hb' hd) (get_conc hl) ht) h
theorem W.iload {i : Nat} {x : Int32} (hd : decode μ.2.1 pc = .ok (.iload i, 2)) (hl : L[i]? = some (.val (.int x))) (h : W tb K μ rm (pc + 2) L (.int x :: S) H Q) : W tb K μ rm pc L S H Q :=
  W.pure rfl (fun k p e m below c T hA hx hb' t ht => XS.iload hA hx rfl (hb hb' hd) (get_conc hl) ht) h
theorem W.lload_n {i : Fin 4} {x : Int64} (hd : decode μ.2.1 pc = .ok (.lload_n i, 1)) (hl : L[i.val]? = some (.val (.long x))) (h : W tb K μ rm (pc + 1) L (.long x :: S) H Q) : W tb K μ rm pc L S H Q :=
  W.pure rfl (fun k p e m below c T hA hx hb' t ht => XS.lloadN hA hx rfl (hb hb' hd) (get_conc hl) ht) h
theorem W.lload {i : Nat} {x : Int64} (hd : decode μ.2.1 pc = .ok (.lload i, 2)) (hl : L[i]? = some (.val (.long x))) (h : W tb K μ rm (pc + 2) L (.long x :: S) H Q) : W tb K μ rm pc L S H Q :=
  W.pure rfl (fun k p e m below c T hA hx hb' t ht => XS.lload hA hx rfl (hb hb' hd) (get_conc hl) ht) h
theorem W.aload_n {i : Fin 4} {v : Value} (hd : decode μ.2.1 pc = .ok (.aload_n i, 1)) (hl : L[i.val]? = some (.val v)) (hv : v.isRef = true) (h : W tb K μ rm (pc + 1) L (v :: S) H Q) : W tb K μ rm pc L S H Q :=
  W.pure rfl (fun k p e m below c T hA hx hb' t ht => XS.aloadN hA hx rfl (hb hb' hd) (get_conc hl) (by rw [cv_isRef]; exact hv) ht) h
theorem W.aload {i : Nat} {v : Value} (hd : decode μ.2.1 pc = .ok (.aload i, 2)) (hl : L[i]? = some (.val v)) (hv : v.isRef = true) (h : W tb K μ rm (pc + 2) L (v :: S) H Q) : W tb K μ rm pc L S H Q :=
  W.pure rfl (fun k p e m below c T hA hx hb' t ht => XS.aload hA hx rfl (hb hb' hd) (get_conc hl) (by rw [cv_isRef]; exact hv) ht) h
theorem W.iadd {x y : Int32} (hd : decode μ.2.1 pc = .ok (.iadd, 1)) (h : W tb K μ rm (pc + 1) L (.int (x + y) :: S) H Q) : W tb K μ rm pc L (.int y :: .int x :: S) H Q :=
  W.pure rfl (fun k p e m below c T hA hx hb' t ht => XS.iadd hA hx rfl (hb hb' hd) rfl ht) h
theorem W.isub {x y : Int32} (hd : decode μ.2.1 pc = .ok (.isub, 1)) (h : W tb K μ rm (pc + 1) L (.int (x - y) :: S) H Q) : W tb K μ rm pc L (.int y :: .int x :: S) H Q :=
  W.pure rfl (fun k p e m below c T hA hx hb' t ht => XS.isub hA hx rfl (hb hb' hd) rfl ht) h
theorem W.imul {x y : Int32} (hd : decode μ.2.1 pc = .ok (.imul, 1)) (h : W tb K μ rm (pc + 1) L (.int (x * y) :: S) H Q) : W tb K μ rm pc L (.int y :: .int x :: S) H Q :=
  W.pure rfl (fun k p e m below c T hA hx hb' t ht => XS.imul hA hx rfl (hb hb' hd) rfl ht) h
theorem W.idiv {x y : Int32} (hd : decode μ.2.1 pc = .ok (.idiv, 1)) (hy : y ≠ 0) (h : W tb K μ rm (pc + 1) L (.int (x / y) :: S) H Q) : W tb K μ rm pc L (.int y :: .int x :: S) H Q :=
  W.pure rfl (fun k p e m below c T hA hx hb' t ht => XS.idiv hA hx rfl (hb hb' hd) rfl hy ht) h
theorem W.irem {x y : Int32} (hd : decode μ.2.1 pc = .ok (.irem, 1)) (hy : y ≠ 0) (h : W tb K μ rm (pc + 1) L (.int (x % y) :: S) H Q) : W tb K μ rm pc L (.int y :: .int x :: S) H Q :=
  W.pure rfl (fun k p e m below c T hA hx hb' t ht => XS.irem hA hx rfl (hb hb' hd) rfl hy (by rw [irem_eq_mod x y]; exact ht)) h
theorem W.ineg {x : Int32} (hd : decode μ.2.1 pc = .ok (.ineg, 1)) (h : W tb K μ rm (pc + 1) L (.int (-x) :: S) H Q) : W tb K μ rm pc L (.int x :: S) H Q :=
  W.pure rfl (fun k p e m below c T hA hx hb' t ht => XS.ineg hA hx rfl (hb hb' hd) rfl ht) h
theorem W.iand {x y : Int32} (hd : decode μ.2.1 pc = .ok (.iand, 1)) (h : W tb K μ rm (pc + 1) L (.int (x &&& y) :: S) H Q) : W tb K μ rm pc L (.int y :: .int x :: S) H Q :=
  W.pure rfl (fun k p e m below c T hA hx hb' t ht => XS.iand hA hx rfl (hb hb' hd) rfl ht) h
theorem W.ior {x y : Int32} (hd : decode μ.2.1 pc = .ok (.ior, 1)) (h : W tb K μ rm (pc + 1) L (.int (x ||| y) :: S) H Q) : W tb K μ rm pc L (.int y :: .int x :: S) H Q :=
  W.pure rfl (fun k p e m below c T hA hx hb' t ht => XT.ior hA hx rfl (hb hb' hd) rfl ht) h
theorem W.ixor {x y : Int32} (hd : decode μ.2.1 pc = .ok (.ixor, 1)) (h : W tb K μ rm (pc + 1) L (.int (x ^^^ y) :: S) H Q) : W tb K μ rm pc L (.int y :: .int x :: S) H Q :=
  W.pure rfl (fun k p e m below c T hA hx hb' t ht => XT.ixor hA hx rfl (hb hb' hd) rfl ht) h
theorem W.ishl {x y : Int32} (hd : decode μ.2.1 pc = .ok (.ishl, 1)) (h : W tb K μ rm (pc + 1) L (.int (x <<< (y &&& 31)) :: S) H Q) : W tb K μ rm pc L (.int y :: .int x :: S) H Q :=
  W.pure rfl (fun k p e m below c T hA hx hb' t ht => XT.ishl hA hx rfl (hb hb' hd) rfl ht) h
theorem W.ishr {x y : Int32} (hd : decode μ.2.1 pc = .ok (.ishr, 1)) (h : W tb K μ rm (pc + 1) L (.int (x >>> (y &&& 31)) :: S) H Q) : W tb K μ rm pc L (.int y :: .int x :: S) H Q :=
  W.pure rfl (fun k p e m below c T hA hx hb' t ht => XT.ishr hA hx rfl (hb hb' hd) rfl ht) h
theorem W.iushr {x y : Int32} (hd : decode μ.2.1 pc = .ok (.iushr, 1)) (h : W tb K μ rm (pc + 1) L (.int (XT.ushr x y) :: S) H Q) : W tb K μ rm pc L (.int y :: .int x :: S) H Q :=
  W.pure rfl (fun k p e m below c T hA hx hb' t ht => XT.iushr hA hx rfl (hb hb' hd) rfl ht) h
theorem W.ladd {x y : Int64} (hd : decode μ.2.1 pc = .ok (.ladd, 1)) (h : W tb K μ rm (pc + 1) L (.long (x + y) :: S) H Q) : W tb K μ rm pc L (.long y :: .long x :: S) H Q :=
  W.pure rfl (fun k p e m below c T hA hx hb' t ht => XT.ladd hA hx rfl (hb hb' hd) rfl ht) h
theorem W.lsub {x y : Int64} (hd : decode μ.2.1 pc = .ok (.lsub, 1)) (h : W tb K μ rm (pc + 1) L (.long (x - y) :: S) H Q) : W tb K μ rm pc L (.long y :: .long x :: S) H Q :=
  W.pure rfl (fun k p e m below c T hA hx hb' t ht => XT.lsub hA hx rfl (hb hb' hd) rfl ht) h
theorem W.lmul {x y : Int64} (hd : decode μ.2.1 pc = .ok (.lmul, 1)) (h : W tb K μ rm (pc + 1) L (.long (x * y) :: S) H Q) : W tb K μ rm pc L (.long y :: .long x :: S) H Q :=
  W.pure rfl (fun k p e m below c T hA hx hb' t ht => XT.lmul hA hx rfl (hb hb' hd) rfl ht) h
theorem W.ldiv {x y : Int64} (hd : decode μ.2.1 pc = .ok (.ldiv, 1)) (hy : y ≠ 0) (h : W tb K μ rm (pc + 1) L (.long (x / y) :: S) H Q) : W tb K μ rm pc L (.long y :: .long x :: S) H Q :=
  W.pure rfl (fun k p e m below c T hA hx hb' t ht => XT.ldiv hA hx rfl (hb hb' hd) rfl hy ht) h
theorem W.land {x y : Int64} (hd : decode μ.2.1 pc = .ok (.land, 1)) (h : W tb K μ rm (pc + 1) L (.long (x &&& y) :: S) H Q) : W tb K μ rm pc L (.long y :: .long x :: S) H Q :=
  W.pure rfl (fun k p e m below c T hA hx hb' t ht => XT.land hA hx rfl (hb hb' hd) rfl ht) h
theorem W.lor {x y : Int64} (hd : decode μ.2.1 pc = .ok (.lor, 1)) (h : W tb K μ rm (pc + 1) L (.long (x ||| y) :: S) H Q) : W tb K μ rm pc L (.long y :: .long x :: S) H Q :=
  W.pure rfl (fun k p e m below c T hA hx hb' t ht => XT.lor hA hx rfl (hb hb' hd) rfl ht) h
theorem W.lxor {x y : Int64} (hd : decode μ.2.1 pc = .ok (.lxor, 1)) (h : W tb K μ rm (pc + 1) L (.long (x ^^^ y) :: S) H Q) : W tb K μ rm pc L (.long y :: .long x :: S) H Q :=
  W.pure rfl (fun k p e m below c T hA hx hb' t ht => XT.lxor hA hx rfl (hb hb' hd) rfl ht) h
theorem W.lshl {x : Int64} {y : Int32} (hd : decode μ.2.1 pc = .ok (.lshl, 1)) (h : W tb K μ rm (pc + 1) L (.long (x <<< (y.toInt64 &&& 63)) :: S) H Q) : W tb K μ rm pc L (.int y :: .long x :: S) H Q :=
  W.pure rfl (fun k p e m below c T hA hx hb' t ht => XT.lshl hA hx rfl (hb hb' hd) rfl ht) h
theorem W.lushr {x : Int64} {y : Int32} (hd : decode μ.2.1 pc = .ok (.lushr, 1)) (h : W tb K μ rm (pc + 1) L (.long (XT.ushrL x y) :: S) H Q) : W tb K μ rm pc L (.int y :: .long x :: S) H Q :=
  W.pure rfl (fun k p e m below c T hA hx hb' t ht => XT.lushr hA hx rfl (hb hb' hd) rfl ht) h
theorem W.lcmp {x y : Int64} (hd : decode μ.2.1 pc = .ok (.lcmp, 1)) (h : W tb K μ rm (pc + 1) L (.int (XT.cmpL x y) :: S) H Q) : W tb K μ rm pc L (.long y :: .long x :: S) H Q :=
  W.pure rfl (fun k p e m below c T hA hx hb' t ht => XT.lcmp hA hx rfl (hb hb' hd) rfl ht) h
theorem W.i2l {x : Int32} (hd : decode μ.2.1 pc = .ok (.i2l, 1)) (h : W tb K μ rm (pc + 1) L (.long x.toInt64 :: S) H Q) : W tb K μ rm pc L (.int x :: S) H Q :=
  W.pure rfl (fun k p e m below c T hA hx hb' t ht => XT.i2l hA hx rfl (hb hb' hd) rfl ht) h
theorem W.l2i {x : Int64} (hd : decode μ.2.1 pc = .ok (.l2i, 1)) (h : W tb K μ rm (pc + 1) L (.int x.toInt32 :: S) H Q) : W tb K μ rm pc L (.long x :: S) H Q :=
  W.pure rfl (fun k p e m below c T hA hx hb' t ht => XT.l2i hA hx rfl (hb hb' hd) rfl ht) h
theorem W.i2b {x : Int32} (hd : decode μ.2.1 pc = .ok (.i2b, 1)) (h : W tb K μ rm (pc + 1) L (.int x.toInt8.toInt32 :: S) H Q) : W tb K μ rm pc L (.int x :: S) H Q :=
  W.pure rfl (fun k p e m below c T hA hx hb' t ht => XT.i2b hA hx rfl (hb hb' hd) rfl ht) h
theorem W.i2c {x : Int32} (hd : decode μ.2.1 pc = .ok (.i2c, 1)) (h : W tb K μ rm (pc + 1) L (.int x.toUInt32.toUInt16.toUInt32.toInt32 :: S) H Q) : W tb K μ rm pc L (.int x :: S) H Q :=
  W.pure rfl (fun k p e m below c T hA hx hb' t ht => XT.i2c hA hx rfl (hb hb' hd) rfl ht) h
theorem W.iconst {i : Int} (hd : decode μ.2.1 pc = .ok (.iconst i, 1)) (h : W tb K μ rm (pc + 1) L (.int (Int32.ofInt i) :: S) H Q) : W tb K μ rm pc L (S) H Q :=
  W.pure rfl (fun k p e m below c T hA hx hb' t ht => XS.iconst hA hx rfl (hb hb' hd) ht) h
theorem W.bipush {i : Int} (hd : decode μ.2.1 pc = .ok (.bipush i, 2)) (h : W tb K μ rm (pc + 2) L (.int (Int8.ofInt i).toInt32 :: S) H Q) : W tb K μ rm pc L (S) H Q :=
  W.pure rfl (fun k p e m below c T hA hx hb' t ht => XS.bipush hA hx rfl (hb hb' hd) ht) h
theorem W.sipush {i : Int} (hd : decode μ.2.1 pc = .ok (.sipush i, 3)) (h : W tb K μ rm (pc + 3) L (.int (Int16.ofInt i).toInt32 :: S) H Q) : W tb K μ rm pc L (S) H Q :=
  W.pure rfl (fun k p e m below c T hA hx hb' t ht => XS.sipush hA hx rfl (hb hb' hd) ht) h
theorem W.lconst {i : Fin 2} (hd : decode μ.2.1 pc = .ok (.lconst i, 1)) (h : W tb K μ rm (pc + 1) L (.long (Int64.ofNat i) :: S) H Q) : W tb K μ rm pc L (S) H Q :=
  W.pure rfl (fun k p e m below c T hA hx hb' t ht => XT.lconst hA hx rfl (hb hb' hd) ht) h
theorem W.aconst_null  (hd : decode μ.2.1 pc = .ok (.aconst_null, 1)) (h : W tb K μ rm (pc + 1) L (.null :: S) H Q) : W tb K μ rm pc L (S) H Q :=
  W.pure rfl (fun k p e m below c T hA hx hb' t ht => XS.aconstNull hA hx rfl (hb hb' hd) ht) h
theorem W.dup {v : Value} (hd : decode μ.2.1 pc = .ok (.dup, 1)) (hc : v.category = 1) (h : W tb K μ rm (pc + 1) L (v :: v :: S) H Q) : W tb K μ rm pc L (v :: S) H Q :=
  W.pure rfl (fun k p e m below c T hA hx hb' t ht => XS.dup hA hx rfl (hb hb' hd) rfl (by rw [cv_cat]; exact hc) ht) h
theorem W.pop {v : Value} (hd : decode μ.2.1 pc = .ok (.pop, 1)) (hc : v.category = 1) (h : W tb K μ rm (pc + 1) L (S) H Q) : W tb K μ rm pc L (v :: S) H Q :=
  W.pure rfl (fun k p e m below c T hA hx hb' t ht => XT.pop hA hx rfl (hb hb' hd) rfl (by rw [cv_cat]; exact hc) ht) h
theorem W.dup_x1 {v w : Value} (hd : decode μ.2.1 pc = .ok (.dup_x1, 1)) (hc : v.category = 1) (hc' : w.category = 1) (h : W tb K μ rm (pc + 1) L (v :: w :: v :: S) H Q) : W tb K μ rm pc L (v :: w :: S) H Q :=
  W.pure rfl (fun k p e m below c T hA hx hb' t ht => XT.dupX1 hA hx rfl (hb hb' hd) rfl (by rw [cv_cat]; exact hc) (by rw [cv_cat]; exact hc') ht) h
theorem W.iconst' {i : Int} {x : Int32} (hd : decode μ.2.1 pc = .ok (.iconst i, 1)) (hx : Int32.ofInt i = x) (h : W tb K μ rm (pc + 1) L (.int x :: S) H Q) : W tb K μ rm pc L S H Q := W.iconst hd (by rw [hx]; exact h)
theorem W.bipush' {i : Int} {x : Int32} (hd : decode μ.2.1 pc = .ok (.bipush i, 2)) (hx : (Int8.ofInt i).toInt32 = x) (h : W tb K μ rm (pc + 2) L (.int x :: S) H Q) : W tb K μ rm pc L S H Q := W.bipush hd (by rw [hx]; exact h)
theorem W.sipush' {i : Int} {x : Int32} (hd : decode μ.2.1 pc = .ok (.sipush i, 3)) (hx : (Int16.ofInt i).toInt32 = x) (h : W tb K μ rm (pc + 3) L (.int x :: S) H Q) : W tb K μ rm pc L S H Q := W.sipush hd (by rw [hx]; exact h)
theorem W.lconst' {i : Fin 2} {x : Int64} (hd : decode μ.2.1 pc = .ok (.lconst i, 1)) (hx : Int64.ofNat i = x) (h : W tb K μ rm (pc + 1) L (.long x :: S) H Q) : W tb K μ rm pc L S H Q := W.lconst hd (by rw [hx]; exact h)
/-- a local of one word -/
def one : Slot → Bool
  | .unset => true
  | .val v => v.category == 1
  | .second => false
theorem cs_one {k : Nat} {o : Slot} (h : one o = true) : cs k o = .unset ∨ ∃ w, cs k o = .val w ∧ w.category = 1 := by
  cases o with
  | unset => exact Or.inl rfl
  | second => cases h
  | val v => exact Or.inr ⟨cv k v, rfl, by rw [cv_cat]; simpa [one] using h⟩
theorem set_conc {k i : Nat} {x : Slot} : (L.map (cs k)).toArray.setIfInBounds i (cs k x) = ((L.set i x).map (cs k)).toArray := by
  simp [List.map_set]
theorem sto1 {k i : Nat} {o : Slot} {v : Value} (hl : L[i]? = some o) (ho : one o = true) (hv : v.category = 1) : storeLocals (L.map (cs k)).toArray i (cv k v) = some ((L.set i (.val v)).map (cs k)).toArray := by
  rw [XS.store1 (o := cs k o) (by simp [hl]) (cs_one ho) (by rw [cv_cat]; exact hv)]
  exact congrArg some (set_conc (x := .val v))
/-- over the first half of a long -/
theorem sto1w {k i : Nat} {w v : Value} (hl : L[i]? = some (.val w)) (ho : w.category = 2) (hi : i + 1 < L.length) (hv : v.category = 1) : storeLocals (L.map (cs k)).toArray i (cv k v) = some (((L.set (i + 1) .unset).set i (.val v)).map (cs k)).toArray := by
  have h0 : i < L.length := by omega
  have e : L[i] = .val w := by rw [List.getElem?_eq_getElem h0] at hl; exact Option.some.inj hl
  simp [storeLocals, storeSelf, setAt, h0, e, cs, cv_cat, ho, hi, hv, List.map_set]
/-- over the second half of a long -/
theorem sto1s {k i : Nat} {v : Value} (hl : L[i]? = some .second) (hi : 0 < i) (hv : v.category = 1) : storeLocals (L.map (cs k)).toArray i (cv k v) = some (((L.set (i - 1) .unset).set i (.val v)).map (cs k)).toArray := by
  have h0 : i < L.length := (List.getElem?_eq_some_iff.mp hl).1
  have e : L[i] = .second := by rw [List.getElem?_eq_getElem h0] at hl; exact Option.some.inj hl
  have h1 : i - 1 < L.length := by omega
  simp [storeLocals, storeSelf, setAt, h0, h1, e, cs, cv_cat, hv, List.map_set]
/-- what a long may be stored over -/
def two : Slot → Slot → Bool
  | .second, _ => false
  | _, .val w => w.category == 1
  | _, _ => true
theorem sto2 {k i : Nat} {o o' : Slot} {x : Int64} (hl : L[i]? = some o) (hl' : L[i + 1]? = some o') (ho : two o o' = true) : storeLocals (L.map (cs k)).toArray i (.long x) = some (((L.set i (.val (.long x))).set (i + 1) .second).map (cs k)).toArray := by
  have h0 : i < L.length := (List.getElem?_eq_some_iff.mp hl).1
  have h1 : i + 1 < L.length := (List.getElem?_eq_some_iff.mp hl').1
  have e : L[i] = o := by rw [List.getElem?_eq_getElem h0] at hl; exact Option.some.inj hl
  have e' : L[i + 1] = o' := by rw [List.getElem?_eq_getElem h1] at hl'; exact Option.some.inj hl'
  have ne : ¬ (i = i + 1) := by omega
  have c2 : (Value.long x).category = 2 := rfl
  have cl : cv k (.long x) = .long x := rfl
  have sw : ∀ (l : List Slot) (u v w : Slot), ((l.set (i + 1) u).set i v).set (i + 1) w = (l.set i v).set (i + 1) w := fun l u v w => by
    rw [List.set_comm _ _ (by omega : i + 1 ≠ i), List.set_set]
  cases o with
  | second => cases ho
  | unset =>
    cases o' with
    | unset => simp [storeLocals, storeSelf, setAt, h0, h1, e, e', cs, c2, cl, List.map_set]
    | second => simp [storeLocals, storeSelf, setAt, h0, h1, e, e', cs, c2, cl, List.map_set]
    | val w' =>
      have hc : w'.category = 1 := by simpa [two] using ho
      simp [storeLocals, storeSelf, setAt, h0, h1, e, e', cs, cv_cat, hc, c2, cl, List.map_set]
  | val w =>
    by_cases hw : w.category = 2
    · simp [storeLocals, storeSelf, setAt, h0, h1, e, cs, cv_cat, hw, c2, cl, List.map_set, sw]
    · cases o' with
      | unset => simp [storeLocals, storeSelf, setAt, h0, h1, e, e', cs, cv_cat, hw, c2, cl, List.map_set]
      | second => simp [storeLocals, storeSelf, setAt, h0, h1, e, e', cs, cv_cat, hw, c2, cl, List.map_set]
      | val w' =>
        have hc : w'.category = 1 := by simpa [two] using ho
        simp [storeLocals, storeSelf, setAt, h0, h1, e, e', cs, cv_cat, hw, hc, c2, cl, List.map_set]
theorem W.istore_n {i : Fin 4} {o : Slot} {x : Int32} (hd : decode μ.2.1 pc = .ok (.istore_n i, 1)) (hl : L[i.val]? = some o) (ho : one o = true) (h : W tb K μ rm (pc + 1) (L.set i.val (.val (.int x))) S H Q) : W tb K μ rm pc L (.int x :: S) H Q :=
  W.pure (by simp) (fun k p e m below c T hA hx hb' t ht => XS.istoreN hA hx rfl (hb hb' hd) rfl (sto1 (v := .int x) hl ho rfl) ht) h
theorem W.istore_nW {i : Fin 4} {w : Value} {x : Int32} (hd : decode μ.2.1 pc = .ok (.istore_n i, 1)) (hl : L[i.val]? = some (.val w)) (ho : w.category = 2) (hi : i.val + 1 < L.length) (h : W tb K μ rm (pc + 1) ((L.set (i.val + 1) .unset).set i.val (.val (.int x))) S H Q) : W tb K μ rm pc L (.int x :: S) H Q :=
  W.pure (by simp) (fun k p e m below c T hA hx hb' t ht => XS.istoreN hA hx rfl (hb hb' hd) rfl (sto1w (v := .int x) hl ho hi rfl) ht) h
theorem W.istore_nS {i : Fin 4} {x : Int32} (hd : decode μ.2.1 pc = .ok (.istore_n i, 1)) (hl : L[i.val]? = some .second) (hi : 0 < i.val) (h : W tb K μ rm (pc + 1) ((L.set (i.val - 1) .unset).set i.val (.val (.int x))) S H Q) : W tb K μ rm pc L (.int x :: S) H Q :=
  W.pure (by simp) (fun k p e m below c T hA hx hb' t ht => XS.istoreN hA hx rfl (hb hb' hd) rfl (sto1s (v := .int x) hl hi rfl) ht) h
theorem W.istore {i : Nat} {o : Slot} {x : Int32} (hd : decode μ.2.1 pc = .ok (.istore i, 2)) (hl : L[i]? = some o) (ho : one o = true) (h : W tb K μ rm (pc + 2) (L.set i (.val (.int x))) S H Q) : W tb K μ rm pc L (.int x :: S) H Q :=
  W.pure (by simp) (fun k p e m below c T hA hx hb' t ht => XS.istore hA hx rfl (hb hb' hd) rfl (sto1 (v := .int x) hl ho rfl) ht) h
theorem W.istoreW {i : Nat} {w : Value} {x : Int32} (hd : decode μ.2.1 pc = .ok (.istore i, 2)) (hl : L[i]? = some (.val w)) (ho : w.category = 2) (hi : i + 1 < L.length) (h : W tb K μ rm (pc + 2) ((L.set (i + 1) .unset).set i (.val (.int x))) S H Q) : W tb K μ rm pc L (.int x :: S) H Q :=
  W.pure (by simp) (fun k p e m below c T hA hx hb' t ht => XS.istore hA hx rfl (hb hb' hd) rfl (sto1w (v := .int x) hl ho hi rfl) ht) h
theorem W.istoreS {i : Nat} {x : Int32} (hd : decode μ.2.1 pc = .ok (.istore i, 2)) (hl : L[i]? = some .second) (hi : 0 < i) (h : W tb K μ rm (pc + 2) ((L.set (i - 1) .unset).set i (.val (.int x))) S H Q) : W tb K μ rm pc L (.int x :: S) H Q :=
  W.pure (by simp) (fun k p e m below c T hA hx hb' t ht => XS.istore hA hx rfl (hb hb' hd) rfl (sto1s (v := .int x) hl hi rfl) ht) h
theorem W.astore_n {i : Fin 4} {o : Slot} {v : Value} (hd : decode μ.2.1 pc = .ok (.astore_n i, 1)) (hl : L[i.val]? = some o) (ho : one o = true) (hv : v.isRef = true) (h : W tb K μ rm (pc + 1) (L.set i.val (.val v)) S H Q) : W tb K μ rm pc L (v :: S) H Q :=
  W.pure (by simp) (fun k p e m below c T hA hx hb' t ht => XS.astoreN hA hx rfl (hb hb' hd) rfl (by rw [cv_isRef]; exact hv) (sto1 (v := v) hl ho (by cases v <;> first | rfl | cases hv)) ht) h
theorem W.astore {i : Nat} {o : Slot} {v : Value} (hd : decode μ.2.1 pc = .ok (.astore i, 2)) (hl : L[i]? = some o) (ho : one o = true) (hv : v.isRef = true) (h : W tb K μ rm (pc + 2) (L.set i (.val v)) S H Q) : W tb K μ rm pc L (v :: S) H Q :=
  W.pure (by simp) (fun k p e m below c T hA hx hb' t ht => XS.astore hA hx rfl (hb hb' hd) rfl (by rw [cv_isRef]; exact hv) (sto1 (v := v) hl ho (by cases v <;> first | rfl | cases hv)) ht) h
theorem W.lstore_n {i : Fin 4} {o o' : Slot} {x : Int64} (hd : decode μ.2.1 pc = .ok (.lstore_n i, 1)) (hl : L[i.val]? = some o) (hl' : L[i.val + 1]? = some o') (ho : two o o' = true) (h : W tb K μ rm (pc + 1) ((L.set i.val (.val (.long x))).set (i.val + 1) .second) S H Q) : W tb K μ rm pc L (.long x :: S) H Q :=
  W.pure (by simp) (fun k p e m below c T hA hx hb' t ht => XT.lstoreN hA hx rfl (hb hb' hd) rfl (sto2 hl hl' ho) ht) h
theorem W.lstore {i : Nat} {o o' : Slot} {x : Int64} (hd : decode μ.2.1 pc = .ok (.lstore i, 2)) (hl : L[i]? = some o) (hl' : L[i + 1]? = some o') (ho : two o o' = true) (h : W tb K μ rm (pc + 2) ((L.set i (.val (.long x))).set (i + 1) .second) S H Q) : W tb K μ rm pc L (.long x :: S) H Q :=
  W.pure (by simp) (fun k p e m below c T hA hx hb' t ht => XT.lstore hA hx rfl (hb hb' hd) rfl (sto2 hl hl' ho) ht) h
theorem W.iinc {i : Nat} {n : Int} {x y : Int32} (hd : decode μ.2.1 pc = .ok (.iinc i n, 3)) (hy : Int32.ofInt n = y) (hl : L[i]? = some (.val (.int x))) (h : W tb K μ rm (pc + 3) (L.set i (.val (.int (x + y)))) S H Q) : W tb K μ rm pc L S H Q := by
  subst hy
  exact W.pure (by simp) (fun k p e m below c T hA hx hb' t ht => XS.iinc hA hx rfl (hb hb' hd) (get_conc hl) (sto1 (v := .int (x + Int32.ofInt n)) hl rfl rfl) ht) h
theorem W.goto {o : Int} {pc' : Nat} (hd : decode μ.2.1 pc = .ok (.goto o, 3)) (ho : 0 ≤ (pc : Int) + o) (hp : ((pc : Int) + o).toNat = pc') (h : W tb K μ rm pc' L S H Q) : W tb K μ rm pc L S H Q :=
  W.pure rfl (fun k p e m below c T hA hx hb' t ht => XS.goto hA hx rfl rfl (hb hb' hd) ho hp ht) h
/-- what a comparison asks -/
def cnd : ClassFile.Cond → Int32 → Int32 → Prop
  | .eq, x, y => x = y
  | .ne, x, y => ¬ x = y
  | .lt, x, y => x < y
  | .ge, x, y => ¬ x < y
  | .gt, x, y => y < x
  | .le, x, y => ¬ y < x
def cndN : ClassFile.Cond → Int32 → Int32 → Prop
  | .eq, x, y => ¬ x = y
  | .ne, x, y => x = y
  | .lt, x, y => ¬ x < y
  | .ge, x, y => x < y
  | .gt, x, y => ¬ y < x
  | .le, x, y => y < x
theorem cndN_of (cd : ClassFile.Cond) (x y : Int32) (h : ¬ cnd cd x y) : cndN cd x y := by
  cases cd <;> first | exact h | exact Classical.not_not.mp h
theorem cnd_iff (cd : ClassFile.Cond) (x y : Int32) : if_icmp.holds cd x y = true ↔ cnd cd x y := by
  cases cd <;> simp [if_icmp.holds, cnd, Int32.not_lt]
theorem cnd_not (cd : ClassFile.Cond) (x y : Int32) : if_icmp.holds cd x y = false ↔ ¬ cnd cd x y := by
  rw [← cnd_iff]; cases if_icmp.holds cd x y <;> simp
theorem W.icmp {cd : ClassFile.Cond} {x y : Int32} {o : Int} {pc' : Nat} (hd : decode μ.2.1 pc = .ok (.if_icmp cd o, 3)) (ho : 0 ≤ (pc : Int) + o) (hp : ((pc : Int) + o).toNat = pc') (h1 : cnd cd x y → W tb K μ rm pc' L S H Q) (h2 : cndN cd x y → W tb K μ rm (pc + 3) L S H Q) : W tb K μ rm pc L (.int y :: .int x :: S) H Q := by
  cases hc : if_icmp.holds cd x y
  · exact W.pure rfl (fun k p e m below c T hA hx hb' t ht => XS.icmpNo hA hx rfl (hb hb' hd) rfl hc ht) (h2 (cndN_of cd x y ((cnd_not cd x y).mp hc)))
  · exact W.pure rfl (fun k p e m below c T hA hx hb' t ht => XS.icmpYes hA hx rfl rfl (hb hb' hd) rfl hc ho hp ht) (h1 ((cnd_iff cd x y).mp hc))
theorem W.ifc {cd : ClassFile.Cond} {x : Int32} {o : Int} {pc' : Nat} (hd : decode μ.2.1 pc = .ok (.ifCond cd o, 3)) (ho : 0 ≤ (pc : Int) + o) (hp : ((pc : Int) + o).toNat = pc') (h1 : cnd cd x 0 → W tb K μ rm pc' L S H Q) (h2 : cndN cd x 0 → W tb K μ rm (pc + 3) L S H Q) : W tb K μ rm pc L (.int x :: S) H Q := by
  cases hc : ifCond.holds cd x
  · exact W.pure rfl (fun k p e m below c T hA hx hb' t ht => XS.ifNo hA hx rfl (hb hb' hd) rfl hc ht) (h2 (cndN_of cd x 0 ((cnd_not cd x 0).mp (by rw [← if0]; exact hc))))
  · exact W.pure rfl (fun k p e m below c T hA hx hb' t ht => XS.ifYes hA hx rfl rfl (hb hb' hd) rfl hc ho hp ht) (h1 ((cnd_iff cd x 0).mp (by rw [← if0]; exact hc)))
def cndL : ClassFile.Cond → Int64 → Int64 → Prop
  | .eq, x, y => x = y
  | .ne, x, y => ¬ x = y
  | .lt, x, y => x < y
  | .ge, x, y => ¬ x < y
  | .gt, x, y => y < x
  | .le, x, y => ¬ y < x
def cndLN : ClassFile.Cond → Int64 → Int64 → Prop
  | .eq, x, y => ¬ x = y
  | .ne, x, y => x = y
  | .lt, x, y => ¬ x < y
  | .ge, x, y => x < y
  | .gt, x, y => ¬ y < x
  | .le, x, y => y < x
theorem cndLN_iff (cd : ClassFile.Cond) (x y : Int64) : cndLN cd x y ↔ ¬ cndL cd x y := by
  cases cd <;> first | exact Iff.rfl | exact Classical.not_not.symm
theorem cndN_iff (cd : ClassFile.Cond) (x y : Int32) : cndN cd x y ↔ ¬ cnd cd x y := by
  cases cd <;> first | exact Iff.rfl | exact Classical.not_not.symm
theorem cmpL_iff (cd : ClassFile.Cond) (x y : Int64) : cnd cd (XT.cmpL x y) 0 ↔ cndL cd x y := by
  have e : XT.cmpL x y = lcmpW x y := by simp [XT.cmpL, lcmpW]
  rw [e]
  cases cd
  · exact lw_eq x y
  · exact not_congr (lw_eq x y)
  · exact lw_lt x y
  · exact not_congr (lw_lt x y)
  · exact lw_gt x y
  · exact not_congr (lw_gt x y)
/-- lcmp and the branch behind it -/
theorem W.lcif {cd : ClassFile.Cond} {x y : Int64} {o : Int} {pc1 pc' : Nat} (hd1 : decode μ.2.1 pc = .ok (.lcmp, 1)) (hp1 : pc + 1 = pc1) (hd : decode μ.2.1 pc1 = .ok (.ifCond cd o, 3)) (ho : 0 ≤ (pc1 : Int) + o) (hp : ((pc1 : Int) + o).toNat = pc') (h1 : cndL cd x y → W tb K μ rm pc' L S H Q) (h2 : cndLN cd x y → W tb K μ rm (pc1 + 3) L S H Q) : W tb K μ rm pc L (.long y :: .long x :: S) H Q := by
  subst hp1
  exact W.lcmp hd1 (W.ifc hd ho hp (fun h => h1 ((cmpL_iff cd x y).mp h)) (fun h => h2 ((cndLN_iff cd x y).mpr fun q => (cndN_iff cd _ 0).mp h ((cmpL_iff cd x y).mpr q))))
theorem W.ifnullR {i : Nat} {o : Int} (hd : decode μ.2.1 pc = .ok (.ifnull o, 3)) (h : W tb K μ rm (pc + 3) L S H Q) : W tb K μ rm pc L (.ref i :: S) H Q :=
  W.pure rfl (fun k p e m below c T hA hx hb' t ht => XS.ifnullNo hA hx rfl (hb hb' hd) rfl ht) h
theorem W.ifnonnullR {i : Nat} {o : Int} {pc' : Nat} (hd : decode μ.2.1 pc = .ok (.ifnonnull o, 3)) (ho : 0 ≤ (pc : Int) + o) (hp : ((pc : Int) + o).toNat = pc') (h : W tb K μ rm pc' L S H Q) : W tb K μ rm pc L (.ref i :: S) H Q :=
  W.pure rfl (fun k p e m below c T hA hx hb' t ht => XT.ifnonnullYes hA hx rfl rfl (hb hb' hd) rfl ho hp ht) h
theorem W.lsw {d : Int} {ps : Array (Int × Int)} {len : Nat} {x : Int32} {o : Int} {pc' : Nat} (hd : decode μ.2.1 pc = .ok (.lookupswitch d ps, len)) (hs : (ps.toList.zip (ps.toList.drop 1)).all (fun (a, next) => a.1 < next.1) = true) (ho : lookupswitch.offset ps.toList d x.toInt = o) (h0 : 0 ≤ (pc : Int) + o) (hp : ((pc : Int) + o).toNat = pc')
    (h : W tb K μ rm pc' L S H Q) : W tb K μ rm pc L (.int x :: S) H Q := by
  subst hp
  refine W.pure rfl (fun k p e m below c T hA hx hb' t ht => ?_) h
  have hd' := hb hb' hd
  show Steps p.tables e below (T.setTop (mkF m pc (L.map (cs k)).toArray (.int x :: S.map (cv k)))) _
  jvm_step hA [hA.top, hx, hd', lookupswitch.wp_chain, ho, h0]
  refine ⟨?_, ht⟩
  simpa using hs
end Logic
end Jvm.Own
namespace Jvm.Own
open Sem ClassFile Op Lib Jvm.Stand Jvm.Free Jvm.LawKit Jvm.RoadKit
section Heap
variable {Z : State} {K : KTab} {h h' : Heap} {H : AHeap} {a b : Addr} {tb : List Cond} {a0 : Array Value}
theorem CellOk.ext {c : ACell} (E : Ext h h') (F : CellOk Z K h a c) : CellOk Z K h' a c := by
  cases c with
  | inl q =>
    obtain ⟨C, n, fs, h1, h2, h3, h4⟩ := F
    exact ⟨C, n, fs, h1, h2, h3.ext E, fun j f v hf hv => (h4 j f v hf hv).ext E⟩
  | inr q =>
    obtain ⟨cell, h1, h2⟩ := F
    exact ⟨cell, h1.ext E, h2⟩
theorem CellOk.other {c : ACell} {sl : Nat} {v : Value} (W : Wr h h' b sl v) (F : CellOk Z K h a c) (ne : a ≠ b) : CellOk Z K h' a c := by
  cases c with
  | inl q =>
    obtain ⟨C, n, fs, h1, h2, h3, h4⟩ := F
    exact ⟨C, n, fs, h1, h2, h3.wr W, fun j f v hf hv => (h4 j f v hf hv).other W (Or.inl ne)⟩
  | inr q =>
    obtain ⟨cell, h1, h2⟩ := F
    exact ⟨cell, h1.other W ne, h2⟩
theorem Rel.start (Z : State) (K : KTab) : Rel Z K Z.heap [] := ⟨rfl, fun i c q => by simp at q⟩
theorem Rel.push {c : ACell} {cell : Cell} (R : Rel Z K h H) (F : CellOk Z K (h.push cell) (Z.heap.size + H.length) c) : Rel Z K (h.push cell) (H ++ [c]) := by
  have E : Ext h (h.push cell) := ⟨by simp, fun x c q => by rw [Array.getElem?_push_lt (Array.getElem?_eq_some_iff.mp q).1]; exact (Array.getElem?_eq_getElem _).symm.trans q⟩
  refine ⟨by simp [R.1]; omega, fun i c' q => ?_⟩
  rcases Nat.lt_trichotomy i H.length with hi | hi | hi
  · rw [List.getElem?_append_left hi] at q
    exact (R.2 i c' q).ext E
  · subst hi
    rw [List.getElem?_append_right (Nat.le_refl _)] at q
    simp at q
    subst q
    exact F
  · rw [List.getElem?_append_right (Nat.le_of_lt hi)] at q
    rw [List.getElem?_eq_none (show 1 ≤ i - H.length from Nat.sub_pos_of_lt hi)] at q
    cases q
theorem Rel.set {c : ACell} {i sl : Nat} {v : Value} (R : Rel Z K h H) (W : Wr h h' (Z.heap.size + i) sl v) (F : CellOk Z K h' (Z.heap.size + i) c) : Rel Z K h' (H.set i c) := by
  refine ⟨by rw [W.size, List.length_set]; exact R.1, fun j c' q => ?_⟩
  by_cases e : j = i
  · subst e
    obtain ⟨hl, -⟩ := List.getElem?_eq_some_iff.mp q
    rw [List.getElem?_set_self (by simpa using hl)] at q
    cases q
    exact F
  · rw [List.getElem?_set_ne (Ne.symm e)] at q
    exact (R.2 j c' q).other W (fun q' => e (Nat.add_left_cancel q'))
theorem mem_of_get {q : String × Nat × List (String × String × String × FieldType)} {c : Nat} (hK : K[c]? = some q) : q ∈ K := List.mem_of_getElem? hK
theorem FOk.laid {C : String} {f : String × String × String × FieldType} (F : FOk tb C f) (hw : ∀ d ∈ tb, d.before a0 Z = true) : Laid Z a0 C f.1 f.2.1 f.2.2.1 := F.1.imp (hw _) (hw _)
theorem CellOk.put {c i j : Nat} {vs : List Value} {C : String} {n : Nat} {fs : List (String × String × String × FieldType)} {f : String × String × String × FieldType} {v : Value} (hKO : KOk tb K) (hw : ∀ d ∈ tb, d.before a0 Z = true) (hK : K[c]? = some (C, n, fs)) (hf : fs[j]? = some f)
    (W : Wr h h' a (RoadKit.slotOf Z f.1 f.2.1 f.2.2.1) (cv Z.heap.size v)) (F : CellOk Z K h a (.inl (c, vs))) : CellOk Z K h' a (.inl (c, vs.set j v)) := by
  obtain ⟨C', n', fs', h1, h2, h3, h4⟩ := F
  cases hK.symm.trans h1
  obtain ⟨k1, k2, k3⟩ := hKO _ (mem_of_get hK)
  refine ⟨C, n, fs, hK, by simpa using h2, h3.wr W, fun j' f' v' hf' hv' => ?_⟩
  by_cases e : j' = j
  · subst e
    cases hf.symm.trans hf'
    have hl : j' < vs.length := by rw [h2]; exact (List.getElem?_eq_some_iff.mp hf).1
    rw [List.getElem?_set_self hl] at hv'
    cases hv'
    obtain ⟨w, hw'⟩ : ∃ w, vs[j']? = some w := ⟨vs[j'], List.getElem?_eq_getElem hl⟩
    exact (h4 j' f w hf hw').same W
  · rw [List.getElem?_set_ne (Ne.symm e)] at hv'
    have m1 : f ∈ fs := List.mem_of_getElem? hf
    have m2 : f' ∈ fs := List.mem_of_getElem? hf'
    have hn : f'.2.1 ≠ f.2.1 := fun q => by
      have g1 : (fs.map fun f => f.2.1)[j']? = some f'.2.1 := by simp [hf']
      have g2 : (fs.map fun f => f.2.1)[j]? = some f.2.1 := by simp [hf]
      rw [q] at g1
      obtain ⟨l1, e1⟩ := List.getElem?_eq_some_iff.mp g1
      obtain ⟨l2, e2⟩ := List.getElem?_eq_some_iff.mp g2
      rcases Nat.lt_or_gt_of_ne e with lt | lt
      · exact (List.pairwise_iff_getElem.mp k3) j' j l1 l2 lt (e1.trans e2.symm)
      · exact (List.pairwise_iff_getElem.mp k3) j j' l2 l1 lt (e2.trans e1.symm)
    exact (h4 j' f' v' hf' hv').other W (Or.inr (slot_ne ((k2 f' m2).laid hw) ((k2 f m1).laid hw) hn (k2 f' m2).2 (k2 f m1).2))
theorem CellOk.sto {ty : FieldType} {vs : List Value} {j : Nat} {v : Value} (W : Wr h h' a j (cv Z.heap.size v)) (F : CellOk Z K h a (.inr (ty, vs))) (hv : fits ty v = true) : CellOk Z K h' a (.inr (ty, vs.set j v)) := by
  obtain ⟨cell, h1, h2, h3⟩ := F
  refine ⟨_, h1.same W, ?_, fun w hw => ?_⟩
  · simp [Cell.setSlot, h2, List.map_set]
  · rcases List.mem_or_eq_of_mem_set hw with q | q
    · exact h3 w q
    · exact q ▸ hv
end Heap
section Logic
variable {tb : List Cond} {K : KTab} {μ : Mth} {rm : Room} {pc : Nat} {L : List Slot} {S : List Value} {H : AHeap} {Q Q' : Option Value → AHeap → Prop}
theorem via_of {Z : State} {a0 : Array Value} (hw : ∀ d ∈ tb, d.before a0 Z = true) {R0 O n d : String} (via : R0 = O ∨ Cond.sameField R0 O n d ∈ tb) : Via Z R0 O n d := by
  rcases via with rfl | q
  · exact Via.refl
  · exact Via.of (hw _ q)
theorem W.getF {idx i j c n : Nat} {C R0 host : String} {fs : List (String × String × String × FieldType)} {vs : List Value} {f : String × String × String × FieldType} {v : Value} (hd : decode μ.2.1 pc = .ok (.getfield idx, 3))
    (w : Cond.fieldLink μ.1.cls idx R0 f.2.1 f.2.2.1 ∈ tb ∨ Cond.fieldLinkNest μ.1.cls idx R0 f.2.1 f.2.2.1 host ∈ tb) (via : R0 = f.1 ∨ Cond.sameField R0 f.1 f.2.1 f.2.2.1 ∈ tb) (hK : K[c]? = some (C, n, fs)) (hf : fs[j]? = some f) (hH : H[i]? = some (.inl (c, vs))) (hv : vs[j]? = some v)
    (h : W tb K μ rm (pc + 3) L (v :: S) H Q) : W tb K μ rm pc L (.ref i :: S) H Q := by
  intro hL Z a0 p l e R s m args below meth c' T locs cells slots X
  obtain ⟨X0, hx, hZ, hw, hby, hml, hrt, hnm, hlk, hown, hR, hr⟩ := X
  obtain ⟨C', n', fs', k1, k2, k3, k4⟩ := hR.2 _ _ hH
  cases hK.symm.trans k1
  have F := k4 j f v hf hv
  obtain ⟨T1, X1, e1, st⟩ := RoadKit.getF X0 hx hZ hown (w.imp (hw _) (hw _)) (via_of hw via) rfl F (g := mkF m pc (L.map (cs Z.heap.size)).toArray ((Value.ref i :: S).map (cv Z.heap.size))) rfl rfl (hb hby hd)
  exact (h hL Z a0 p l e R s m args below meth c' T1 locs cells slots ⟨X1, hx, hZ, hw, hby, hml, hrt, hnm, hlk, hown, e1 ▸ hR, hr⟩).steps st
theorem W.putF {idx i j c n : Nat} {C R0 host : String} {fs : List (String × String × String × FieldType)} {vs : List Value} {f : String × String × String × FieldType} {v : Value} (hKO : KOk tb K) (hd : decode μ.2.1 pc = .ok (.putfield idx, 3))
    (w : Cond.fieldLink μ.1.cls idx R0 f.2.1 f.2.2.1 ∈ tb ∨ Cond.fieldLinkNest μ.1.cls idx R0 f.2.1 f.2.2.1 host ∈ tb) (via : R0 = f.1 ∨ Cond.sameField R0 f.1 f.2.1 f.2.2.1 ∈ tb) (hK : K[c]? = some (C, n, fs)) (hf : fs[j]? = some f)
    (la : Cond.lays C f.1 f.2.1 f.2.2.1 ∈ tb ∨ (Cond.laysFinal C f.1 f.2.1 f.2.2.1 ∈ tb ∧ μ.1.cls = f.1 ∧ μ.1.name = "<init>")) (hn : narrow f.2.2.2 v = v) (hfi : fits f.2.2.2 v = true) (hH : H[i]? = some (.inl (c, vs)))
    (h : W tb K μ rm (pc + 3) L S (H.set i (.inl (c, vs.set j v))) Q) : W tb K μ rm pc L (v :: .ref i :: S) H Q := by
  intro hL Z a0 p l e R s m args below meth c' T locs cells slots X
  obtain ⟨X0, hx, hZ, hw, hby, hml, hrt, hnm, hlk, hown, hR, hFr, hr⟩ := X
  have CO := hR.2 _ _ hH
  obtain ⟨C', n', fs', k1, k2, k3, k4⟩ := CO
  cases hK.symm.trans k1
  have hl : j < vs.length := by rw [k2]; exact (List.getElem?_eq_some_iff.mp hf).1
  have F := k4 j f vs[j] hf (List.getElem?_eq_getElem hl)
  obtain ⟨o1, o2, o3⟩ := hKO _ (mem_of_get hK)
  obtain ⟨T1, h1, X1, e1, W1, st⟩ := RoadKit.putF X0 hx hZ hown (w.imp (hw _) (hw _)) (via_of hw via) rfl F k3 (la.imp (hw _) fun q => ⟨hw _ q.1, q.2.1, hnm.trans q.2.2⟩) (hw _ o1) (o2 f (List.mem_of_getElem? hf)).2 (v := cv Z.heap.size v) (by rw [cv_narrow, hn]) (by rw [cv_fits]; exact hfi) (g := mkF m pc (L.map (cs Z.heap.size)).toArray ((v :: Value.ref i :: S).map (cv Z.heap.size))) rfl rfl (hb hby hd)
  exact (h hL Z a0 p l e R s m args below meth c' T1 _ cells slots ⟨X1, hx, hZ, hw, hby, hml, hrt, hnm, hlk, hown, e1 ▸ hR.set W1 (CellOk.put (i := i) hKO hw hK hf W1 (hR.2 _ _ hH)), Fr.snoc X1 hFr (Nat.le_add_right _ _), hr⟩).steps st
/-- a field of a boolean, byte, char or short -/
theorem W.putFN {idx i j c n : Nat} {C R0 : String} {fs : List (String × String × String × FieldType)} {vs : List Value} {f : String × String × String × FieldType} {v v' : Value} (hKO : KOk tb K) (hd : decode μ.2.1 pc = .ok (.putfield idx, 3))
    (w : Cond.fieldLink μ.1.cls idx R0 f.2.1 f.2.2.1 ∈ tb) (via : R0 = f.1 ∨ Cond.sameField R0 f.1 f.2.1 f.2.2.1 ∈ tb) (hK : K[c]? = some (C, n, fs)) (hf : fs[j]? = some f)
    (la : Cond.lays C f.1 f.2.1 f.2.2.1 ∈ tb ∨ (Cond.laysFinal C f.1 f.2.1 f.2.2.1 ∈ tb ∧ μ.1.cls = f.1 ∧ μ.1.name = "<init>")) (hn : narrow f.2.2.2 v = v') (hfi : fits f.2.2.2 v' = true) (hH : H[i]? = some (.inl (c, vs)))
    (h : W tb K μ rm (pc + 3) L S (H.set i (.inl (c, vs.set j v'))) Q) : W tb K μ rm pc L (v :: .ref i :: S) H Q := by
  intro hL Z a0 p l e R s m args below meth c' T locs cells slots X
  obtain ⟨X0, hx, hZ, hw, hby, hml, hrt, hnm, hlk, hown, hR, hFr, hr⟩ := X
  have CO := hR.2 _ _ hH
  obtain ⟨C', n', fs', k1, k2, k3, k4⟩ := CO
  cases hK.symm.trans k1
  have hl : j < vs.length := by rw [k2]; exact (List.getElem?_eq_some_iff.mp hf).1
  have F := k4 j f vs[j] hf (List.getElem?_eq_getElem hl)
  obtain ⟨o1, o2, o3⟩ := hKO _ (mem_of_get hK)
  obtain ⟨T1, h1, X1, e1, W1, st⟩ := RoadKit.putFN X0 hx hZ hown (hw _ w) (via_of hw via) rfl F k3 (la.imp (hw _) fun q => ⟨hw _ q.1, q.2.1, hnm.trans q.2.2⟩) (hw _ o1) (o2 f (List.mem_of_getElem? hf)).2 (v := cv Z.heap.size v) (v' := cv Z.heap.size v') (by rw [cv_narrow, hn]) (by rw [cv_fits]; exact hfi) (g := mkF m pc (L.map (cs Z.heap.size)).toArray ((v :: Value.ref i :: S).map (cv Z.heap.size))) rfl rfl (hb hby hd)
  exact (h hL Z a0 p l e R s m args below meth c' T1 _ cells slots ⟨X1, hx, hZ, hw, hby, hml, hrt, hnm, hlk, hown, e1 ▸ hR.set W1 (CellOk.put (i := i) hKO hw hK hf W1 (hR.2 _ _ hH)), Fr.snoc X1 hFr (Nat.le_add_right _ _), hr⟩).steps st
/-- the index j is the natural N -/
abbrev ix (j : Int32) (N : Nat) : Prop := ¬ j < 0 ∧ j.toNatClampNeg = N
theorem ix_ofNat {N : Nat} (h : N < 2 ^ 31) : ix (Int32.ofNat N) N := by
  have e : (Int32.ofNat N).toInt = N := Int32.toInt_ofNat_of_lt h
  refine ⟨?_, ?_⟩
  · rw [Int32.lt_iff_toInt_lt, e]; simp
  · rw [Int32.toNatClampNeg, e]; rfl
theorem inb {cell : Cell} {j : Int32} {N : Nat} {vs : List Value} {k : Nat} (k2 : cell.slots = (vs.map (cv k)).toArray) (hj : ¬ j < 0) (hN : j.toNatClampNeg = N) (hl : N < vs.length) : ¬ (j < 0 ∨ cell.slots.size ≤ j.toNatClampNeg) := by
  rw [k2, hN]; simp; exact ⟨by simpa using hj, hl⟩
/-- room for an object of n slots -/
def nok (rm : Room) (n : Nat) : Bool := Nat.ble 1 rm.cells && (Nat.ble n rm.slots && Nat.ble n 67108864)
theorem nok_spec {rm : Room} {n : Nat} (h : nok rm n = true) : 1 ≤ rm.cells ∧ n ≤ rm.slots ∧ n * 8 ≤ 536870912 := by
  simp only [nok, Bool.and_eq_true, Nat.ble_eq] at h
  omega
theorem W.new {idx c n i : Nat} {C : String} {fs : List (String × String × String × FieldType)} (hKO : KOk tb K) (hd : decode μ.2.1 pc = .ok (.new idx, 3)) (w : Cond.classLink μ.1.cls idx C ∈ tb) (wz : Cond.initialized C ∈ tb) (hK : K[c]? = some (C, n, fs)) (hi : H.length = i) (hr : nok rm n = true)
    (h : W tb K μ ⟨rm.frames, rm.cells - 1, rm.slots - n, rm.locals⟩ (pc + 3) L (.ref i :: S) (H ++ [.inl (c, fs.map fun f => defaultValue f.2.2.2)]) Q) : W tb K μ rm pc L S H Q := by
  intro hL Z a0 p l e R s m args below meth c' T locs cells slots X
  obtain ⟨X0, hx, hZ, hw, hby, hml, hrt, hnm, hlk, hown, hR, hFr, hr1, hr2, hr3, hr4⟩ := X
  obtain ⟨hc, hs, hb'⟩ := nok_spec hr
  obtain ⟨o1, o2, o3⟩ := hKO _ (mem_of_get hK)
  obtain ⟨vm', cC, kC, h1, h2, h3, h4, X', st⟩ := X0.newCold hx hown (mv hZ (hw _ w)) (mv hZ (hw _ (show Cond.instantiable C n ∈ tb from o1))) (mv hZ (hw _ wz)) (g := mkF m pc (L.map (cs Z.heap.size)).toArray (S.map (cv Z.heap.size))) rfl (hb hby hd) (by omega) (by omega)
  rw [hZ.alike.findClass] at h1
  obtain ⟨kZ, z1, -⟩ := Vm.findClass_spec h1
  obtain ⟨k', z2, z3⟩ := hZ.alike.2.2 _ _ z1
  cases h2.symm.trans z2
  have ei : kC.instanceTypes = kZ.instanceTypes := by rw [z3]
  have hN : (T.heap.push { cls := cC, slots := kC.instanceTypes.map defaultValue, vm := .none })[T.heap.size]? = some { cls := cC, slots := kC.instanceTypes.map defaultValue, vm := .none } := by simp
  have ea : Z.heap.size + i = T.heap.size := by rw [hR.1, hi]
  have CO : CellOk Z K (T.heap.push { cls := cC, slots := kC.instanceTypes.map defaultValue, vm := .none }) (Z.heap.size + H.length) (.inl (c, fs.map fun f => defaultValue f.2.2.2)) := by
    refine ⟨C, n, fs, hK, by simp, ⟨_, kZ, by rw [← hR.1]; exact hN, h1, z1, rfl, fun _ => by simp [ei]⟩, fun j f v hf hv => ?_⟩
    have hv' : v = defaultValue f.2.2.2 := by simpa [hf] using hv.symm
    subst hv'
    obtain ⟨f1, f2⟩ := o2 f (List.mem_of_getElem? hf)
    obtain ⟨c1, k1, cf, kf, i1, ff, b1, b2, b3, b4, b5, b6, -⟩ := (FOk.laid ⟨f1, f2⟩ hw).spec
    cases h1.symm.trans b1
    cases z1.symm.trans b2
    rw [cv_default]
    exact ⟨_, cf, kf, i1, ff, by rw [← hR.1]; exact hN, b3, b4, by simp, rfl, b5, by simp [ei, b6, (State.fieldFound?_type b3 f2).2]⟩
  have := h hL Z a0 p l e R s m args below meth c' _ locs (cells + 1) (slots + n) ⟨X', hx, hZ, hw, hby, hml, hrt, hnm, hlk, hown, hR.push CO, hFr, hr1, by show cells + 1 + (rm.cells - 1) ≤ _; omega, by show slots + n + (rm.slots - n) ≤ _; omega, hr4⟩
  refine this.steps fun t ht => st t ?_
  rw [← ea]; exact ht
theorem W.newarray {aty : ArrayType} {ty : FieldType} {N i : Nat} {n : Int32} {d : Value} (hd : decode μ.2.1 pc = .ok (.newarray aty, 2)) (hty : newarray.typeOf aty = ty) (w : Cond.arrayClass ty ∈ tb) (hdv : defaultValue ty = d) (hn : ix n N) (hi : H.length = i) (hr : nok rm N = true)
    (h : W tb K μ ⟨rm.frames, rm.cells - 1, rm.slots - N, rm.locals⟩ (pc + 2) L (.ref i :: S) (H ++ [.inr (ty, List.replicate N d)]) Q) : W tb K μ rm pc L (.int n :: S) H Q := by
  intro hL Z a0 p l e R s m args below meth c' T locs cells slots X
  obtain ⟨X0, hx, hZ, hw, hby, hml, hrt, hnm, hlk, hown, hR, hFr, hr1, hr2, hr3, hr4⟩ := X
  obtain ⟨hn, hN⟩ := hn
  subst hty hdv hN
  obtain ⟨hc, hs, hb'⟩ := nok_spec hr
  have hcb : componentBytes (newarray.typeOf aty) ≤ 8 := by cases aty <;> decide
  obtain ⟨cA, kA, comp, h1, h2, h3, X', st⟩ := X0.newarrayPrim hx (mvA hZ (hw _ w)) (g := mkF m pc (L.map (cs Z.heap.size)).toArray ((Value.int n :: S).map (cv Z.heap.size))) rfl (hb hby hd) (n := n) rfl hn (Nat.le_trans (Nat.mul_le_mul (Nat.le_refl _) hcb) hb') (by omega) (by omega)
  rw [hZ.alike.findClass] at h1
  obtain ⟨kZ, z1, -⟩ := Vm.findClass_spec h1
  obtain ⟨k', z2, z3⟩ := hZ.alike.2.2 _ _ z1
  cases h2.symm.trans z2
  have hN : (T.heap.push { cls := cA, slots := Array.replicate n.toNatClampNeg (defaultValue (newarray.typeOf aty)), vm := .none })[T.heap.size]? = some { cls := cA, slots := Array.replicate n.toNatClampNeg (defaultValue (newarray.typeOf aty)), vm := .none } := by simp
  have ea : Z.heap.size + i = T.heap.size := by rw [hR.1, hi]
  have CO : CellOk Z K (T.heap.push { cls := cA, slots := Array.replicate n.toNatClampNeg (defaultValue (newarray.typeOf aty)), vm := .none }) (Z.heap.size + H.length) (.inr (newarray.typeOf aty, List.replicate n.toNatClampNeg (defaultValue (newarray.typeOf aty)))) := by
    refine ⟨_, ⟨by rw [← hR.1]; exact hN, ⟨by simp, kZ, z1, comp, by rw [← h3, z3]⟩, by simp⟩, by simp [cv_default], fun v hv => ?_⟩
    rw [(List.mem_replicate.mp hv).2]
    cases aty <;> rfl
  have := h hL Z a0 p l e R s m args below meth c' _ locs (cells + 1) (slots + n.toNatClampNeg) ⟨X', hx, hZ, hw, hby, hml, hrt, hnm, hlk, hown, hR.push CO, hFr, hr1, by show cells + 1 + (rm.cells - 1) ≤ _; omega, by show slots + n.toNatClampNeg + (rm.slots - n.toNatClampNeg) ≤ _; omega, hr4⟩
  refine this.steps fun t ht => st t ?_
  rw [← ea]; exact ht
theorem W.arraylength {i : Nat} {ty : FieldType} {vs : List Value} (hd : decode μ.2.1 pc = .ok (.arraylength, 1)) (hH : H[i]? = some (.inr (ty, vs))) (h : W tb K μ rm (pc + 1) L (.int (Int32.ofNat vs.length) :: S) H Q) : W tb K μ rm pc L (.ref i :: S) H Q := by
  intro hL Z a0 p l e R s m args below meth c' T locs cells slots X
  have X' := X
  obtain ⟨X0, hx, hZ, hw, hby, hml, hrt, hnm, hlk, hown, hR, hr⟩ := X
  obtain ⟨cell, A, k2, k3⟩ := hR.2 _ _ hH
  refine (h hL Z a0 p l e R s m args below meth c' T locs cells slots X').steps fun t ht => ?_
  refine X0.arraylength hx A.1 (State.isArrayOf_alike hZ.alike A.2.1) (g := mkF m pc (L.map (cs Z.heap.size)).toArray ((Value.ref i :: S).map (cv Z.heap.size))) rfl rfl (hb hby hd) t ?_
  have e : cell.slots.size.toInt32 = Int32.ofNat vs.length := by rw [k2]; simp
  rw [e]; exact ht
theorem W.xaload {ins : Instr} {ty : FieldType} (hk : (ins = .iaload ∧ ty = .int) ∨ (ins = .laload ∧ ty = .long) ∨ (ins = .baload ∧ (ty = .byte ∨ ty = .boolean))) {i N : Nat} {j : Int32} {vs : List Value} {v : Value} (hd : decode μ.2.1 pc = .ok (ins, 1)) (hH : H[i]? = some (.inr (ty, vs))) (hj : ix j N) (hv : vs[N]? = some v)
    (h : W tb K μ rm (pc + 1) L (v :: S) H Q) : W tb K μ rm pc L (.int j :: .ref i :: S) H Q := by
  intro hL Z a0 p l e R s m args below meth c' T locs cells slots X
  have X' := X
  obtain ⟨X0, hx, hZ, hw, hby, hml, hrt, hnm, hlk, hown, hR, hr⟩ := X
  obtain ⟨cell, A, k2, k3⟩ := hR.2 _ _ hH
  have hN := hj.2
  have hin := inb k2 hj.1 hN (List.getElem?_eq_some_iff.mp hv).1
  have hv' : cell.slots[j.toNatClampNeg]? = some (cv Z.heap.size v) := by rw [k2, hN]; simp [hv]
  refine (h hL Z a0 p l e R s m args below meth c' T locs cells slots X').steps fun t ht => ?_
  rcases hk with ⟨rfl, rfl⟩ | ⟨rfl, rfl⟩ | ⟨rfl, rfl | rfl⟩
  · exact X0.iaload hx A.1 (State.isArrayOf_alike hZ.alike A.2.1) A.2.2 hin hv' (g := mkF m pc (L.map (cs Z.heap.size)).toArray ((Value.int j :: Value.ref i :: S).map (cv Z.heap.size))) rfl rfl (hb hby hd) t ht
  · exact X0.laload hx A.1 (State.isArrayOf_alike hZ.alike A.2.1) A.2.2 hin hv' (g := mkF m pc (L.map (cs Z.heap.size)).toArray ((Value.int j :: Value.ref i :: S).map (cv Z.heap.size))) rfl rfl (hb hby hd) t ht
  · exact X0.baloadBytes hx A.1 (State.isArrayOf_alike hZ.alike A.2.1) A.2.2 hin hv' (g := mkF m pc (L.map (cs Z.heap.size)).toArray ((Value.int j :: Value.ref i :: S).map (cv Z.heap.size))) rfl rfl (hb hby hd) t ht
  · exact X0.baloadBooleans hx A.1 (State.isArrayOf_alike hZ.alike A.2.1) A.2.2 hin hv' (g := mkF m pc (L.map (cs Z.heap.size)).toArray ((Value.int j :: Value.ref i :: S).map (cv Z.heap.size))) rfl rfl (hb hby hd) t ht
theorem W.iastore {i N : Nat} {j x : Int32} {vs : List Value} (hd : decode μ.2.1 pc = .ok (.iastore, 1)) (hH : H[i]? = some (.inr (.int, vs))) (hj : ix j N) (hl : Nat.blt N vs.length = true)
    (h : W tb K μ rm (pc + 1) L S (H.set i (.inr (.int, vs.set N (.int x)))) Q) : W tb K μ rm pc L (.int x :: .int j :: .ref i :: S) H Q := by
  intro hL Z a0 p l e R s m args below meth c' T locs cells slots X
  obtain ⟨X0, hx, hZ, hw, hby, hml, hrt, hnm, hlk, hown, hR, hFr, hr⟩ := X
  have CO := hR.2 _ _ hH
  obtain ⟨cell, A, k2, k3⟩ := CO
  obtain ⟨T1, h1, X1, e1, W1, st⟩ := stI X0 hx hZ rfl A (inb k2 hj.1 hj.2 (Nat.blt_eq.mp hl)) (g := mkF m pc (L.map (cs Z.heap.size)).toArray ((Value.int x :: Value.int j :: Value.ref i :: S).map (cv Z.heap.size))) rfl rfl (hb hby hd)
  rw [hj.2] at W1
  exact (h hL Z a0 p l e R s m args below meth c' T1 _ cells slots ⟨X1, hx, hZ, hw, hby, hml, hrt, hnm, hlk, hown, e1 ▸ hR.set W1 (CellOk.sto (v := .int x) W1 (hR.2 _ _ hH) rfl), Fr.snoc X1 hFr (Nat.le_add_right _ _), hr⟩).steps st
theorem W.lastore {i N : Nat} {j : Int32} {x : Int64} {vs : List Value} (hd : decode μ.2.1 pc = .ok (.lastore, 1)) (hH : H[i]? = some (.inr (.long, vs))) (hj : ix j N) (hl : Nat.blt N vs.length = true)
    (h : W tb K μ rm (pc + 1) L S (H.set i (.inr (.long, vs.set N (.long x)))) Q) : W tb K μ rm pc L (.long x :: .int j :: .ref i :: S) H Q := by
  intro hL Z a0 p l e R s m args below meth c' T locs cells slots X
  obtain ⟨X0, hx, hZ, hw, hby, hml, hrt, hnm, hlk, hown, hR, hFr, hr⟩ := X
  have CO := hR.2 _ _ hH
  obtain ⟨cell, A, k2, k3⟩ := CO
  obtain ⟨T1, h1, X1, e1, W1, st⟩ := stJ X0 hx hZ rfl A (inb k2 hj.1 hj.2 (Nat.blt_eq.mp hl)) (g := mkF m pc (L.map (cs Z.heap.size)).toArray ((Value.long x :: Value.int j :: Value.ref i :: S).map (cv Z.heap.size))) rfl rfl (hb hby hd)
  rw [hj.2] at W1
  exact (h hL Z a0 p l e R s m args below meth c' T1 _ cells slots ⟨X1, hx, hZ, hw, hby, hml, hrt, hnm, hlk, hown, e1 ▸ hR.set W1 (CellOk.sto (v := .long x) W1 (hR.2 _ _ hH) rfl), Fr.snoc X1 hFr (Nat.le_add_right _ _), hr⟩).steps st
theorem W.bastore {i N : Nat} {j x : Int32} {vs : List Value} (hd : decode μ.2.1 pc = .ok (.bastore, 1)) (hH : H[i]? = some (.inr (.byte, vs))) (hj : ix j N) (hl : Nat.blt N vs.length = true)
    (h : W tb K μ rm (pc + 1) L S (H.set i (.inr (.byte, vs.set N (.int x.toInt8.toInt32)))) Q) : W tb K μ rm pc L (.int x :: .int j :: .ref i :: S) H Q := by
  intro hL Z a0 p l e R s m args below meth c' T locs cells slots X
  obtain ⟨X0, hx, hZ, hw, hby, hml, hrt, hnm, hlk, hown, hR, hFr, hr⟩ := X
  have CO := hR.2 _ _ hH
  obtain ⟨cell, A, k2, k3⟩ := CO
  obtain ⟨T1, h1, X1, e1, W1, st⟩ := stB X0 hx hZ rfl A (inb k2 hj.1 hj.2 (Nat.blt_eq.mp hl)) (g := mkF m pc (L.map (cs Z.heap.size)).toArray ((Value.int x :: Value.int j :: Value.ref i :: S).map (cv Z.heap.size))) rfl rfl (hb hby hd)
  rw [hj.2] at W1
  exact (h hL Z a0 p l e R s m args below meth c' T1 _ cells slots ⟨X1, hx, hZ, hw, hby, hml, hrt, hnm, hlk, hown, e1 ▸ hR.set W1 (CellOk.sto (v := .int x.toInt8.toInt32) W1 (hR.2 _ _ hH) (fits_nar_byte x)), Fr.snoc X1 hFr (Nat.le_add_right _ _), hr⟩).steps st
theorem W.bastoreZ {i N : Nat} {j x : Int32} {vs : List Value} (hd : decode μ.2.1 pc = .ok (.bastore, 1)) (hH : H[i]? = some (.inr (.boolean, vs))) (hj : ix j N) (hl : Nat.blt N vs.length = true)
    (h : W tb K μ rm (pc + 1) L S (H.set i (.inr (.boolean, vs.set N (.int (x &&& 1))))) Q) : W tb K μ rm pc L (.int x :: .int j :: .ref i :: S) H Q := by
  intro hL Z a0 p l e R s m args below meth c' T locs cells slots X
  obtain ⟨X0, hx, hZ, hw, hby, hml, hrt, hnm, hlk, hown, hR, hFr, hr⟩ := X
  have CO := hR.2 _ _ hH
  obtain ⟨cell, A, k2, k3⟩ := CO
  obtain ⟨T1, h1, X1, e1, W1, st⟩ := stZ X0 hx hZ rfl A (inb k2 hj.1 hj.2 (Nat.blt_eq.mp hl)) (g := mkF m pc (L.map (cs Z.heap.size)).toArray ((Value.int x :: Value.int j :: Value.ref i :: S).map (cv Z.heap.size))) rfl rfl (hb hby hd)
  rw [hj.2] at W1
  exact (h hL Z a0 p l e R s m args below meth c' T1 _ cells slots ⟨X1, hx, hZ, hw, hby, hml, hrt, hnm, hlk, hown, e1 ▸ hR.set W1 (CellOk.sto (v := .int (x &&& 1)) W1 (hR.2 _ _ hH) (fits_nar_bool x)), Fr.snoc X1 hFr (Nat.le_add_right _ _), hr⟩).steps st
theorem W.ldcInt {idx : Nat} {x : Int32} (hd : decode μ.2.1 pc = .ok (.ldc idx, 2)) (w : Cond.constant μ.1.cls idx x ∈ tb) (h : W tb K μ rm (pc + 2) L (.int x :: S) H Q) : W tb K μ rm pc L S H Q := by
  intro hL Z a0 p l e R s m args below meth c' T locs cells slots X
  have X' := X
  obtain ⟨X0, hx, hZ, hw, hby, hml, hrt, hnm, hlk, hown, hR, hr⟩ := X
  exact (h hL Z a0 p l e R s m args below meth c' T locs cells slots X').steps (X0.ldcInt hx hown (mvT hZ (hw _ w)) (g := mkF m pc (L.map (cs Z.heap.size)).toArray (S.map (cv Z.heap.size))) rfl (hb hby hd))
theorem W.ldcLong {idx : Nat} {x : Int64} (hd : decode μ.2.1 pc = .ok (.ldc2_w idx, 3)) (w : Cond.constantLong μ.1.cls idx x ∈ tb) (h : W tb K μ rm (pc + 3) L (.long x :: S) H Q) : W tb K μ rm pc L S H Q := by
  intro hL Z a0 p l e R s m args below meth c' T locs cells slots X
  have X' := X
  obtain ⟨X0, hx, hZ, hw, hby, hml, hrt, hnm, hlk, hown, hR, hr⟩ := X
  exact (h hL Z a0 p l e R s m args below meth c' T locs cells slots X').steps (X0.ldc2Long hx hown (mvT hZ (hw _ w)) (g := mkF m pc (L.map (cs Z.heap.size)).toArray (S.map (cv Z.heap.size))) rfl (hb hby hd))
end Logic
end Jvm.Own
namespace Jvm.Own
open Sem ClassFile Op Lib Jvm.Stand Jvm.Free Jvm.LawKit Jvm.RoadKit
section Logic
variable {tb : List Cond} {K : KTab} {μ μ' : Mth} {rm rm' : Room} {pc : Nat} {L : List Slot} {S : List Value} {H : AHeap} {Q Q' : Option Value → AHeap → Prop}
theorem W.ret_ (hd : decode μ.2.1 pc = .ok (.return_, 1)) (hr0 : μ.2.2.2 = none) (hQ : Q none H) : W tb K μ rm pc L [] H Q := by
  intro hL Z a0 p l e R s m args below meth c' T locs cells slots X
  obtain ⟨X0, hx, hZ, hw, hby, hml, hrt, hnm, hlk, hown, hR, hFr, hr1, hr2, hr3, hr4⟩ := X
  obtain ⟨fs, hr, hrun, hended, hW, hsame⟩ := X0.leave (v := none) (fun _ => rfl) hlk
  exact ⟨none, H, T, locs, fs, hQ, X0.returnOut hx (hrt.trans hr0) (hb hby hd) hr, hrun, hended, hW, hsame.mono (by omega) (by omega), hFr, hR⟩
theorem W.ireturn {x : Int32} (hd : decode μ.2.1 pc = .ok (.ireturn, 1)) (hr0 : μ.2.2.2 = some .int) (hQ : Q (some (.int x)) H) : W tb K μ rm pc L (.int x :: S) H Q := by
  intro hL Z a0 p l e R s m args below meth c' T locs cells slots X
  obtain ⟨X0, hx, hZ, hw, hby, hml, hrt, hnm, hlk, hown, hR, hFr, hr1, hr2, hr3, hr4⟩ := X
  obtain ⟨fs, hr, hrun, hended, hW, hsame⟩ := X0.leave (v := some (.int x)) (fun h => by rw [hrt, hr0] at h; cases h) hlk
  exact ⟨some (.int x), H, T, locs, fs, hQ, retOut X0 hx (hrt.trans hr0) rfl (Or.inl ⟨rfl, Or.inl rfl, _, rfl⟩) (hb hby hd) hr, hrun, hended, hW, hsame.mono (by omega) (by omega), hFr, hR⟩
theorem W.ireturnN {t : FieldType} {x : Int32} (hd : decode μ.2.1 pc = .ok (.ireturn, 1)) (hr0 : μ.2.2.2 = some t) (ht : t = .boolean ∨ t = .byte ∨ t = .char ∨ t = .short) (hQ : Q (some (.int (nar t x))) H) : W tb K μ rm pc L (.int x :: S) H Q := by
  intro hL Z a0 p l e R s m args below meth c' T locs cells slots X
  obtain ⟨X0, hx, hZ, hw, hby, hml, hrt, hnm, hlk, hown, hR, hFr, hr1, hr2, hr3, hr4⟩ := X
  obtain ⟨fs, hr, hrun, hended, hW, hsame⟩ := X0.leave (v := some (.int (nar t x))) (fun h => by rw [hrt, hr0] at h; cases h) hlk
  exact ⟨some (.int (nar t x)), H, T, locs, fs, hQ, retN X0 hx (hrt.trans hr0) ht (hb hby hd) hr, hrun, hended, hW, hsame.mono (by omega) (by omega), hFr, hR⟩
theorem W.ireturnZ {x : Int32} (hd : decode μ.2.1 pc = .ok (.ireturn, 1)) (hr0 : μ.2.2.2 = some .boolean) (hQ : Q (some (.int (x &&& 1))) H) : W tb K μ rm pc L (.int x :: S) H Q := W.ireturnN hd hr0 (Or.inl rfl) hQ
theorem W.lreturn {x : Int64} (hd : decode μ.2.1 pc = .ok (.lreturn, 1)) (hr0 : μ.2.2.2 = some .long) (hQ : Q (some (.long x)) H) : W tb K μ rm pc L (.long x :: S) H Q := by
  intro hL Z a0 p l e R s m args below meth c' T locs cells slots X
  obtain ⟨X0, hx, hZ, hw, hby, hml, hrt, hnm, hlk, hown, hR, hFr, hr1, hr2, hr3, hr4⟩ := X
  obtain ⟨fs, hr, hrun, hended, hW, hsame⟩ := X0.leave (v := some (.long x)) (fun h => by rw [hrt, hr0] at h; cases h) hlk
  exact ⟨some (.long x), H, T, locs, fs, hQ, retOut X0 hx (hrt.trans hr0) rfl (Or.inr (Or.inl ⟨rfl, rfl, _, rfl⟩)) (hb hby hd) hr, hrun, hended, hW, hsame.mono (by omega) (by omega), hFr, hR⟩
theorem W.areturn {t : FieldType} {v : Value} (hd : decode μ.2.1 pc = .ok (.areturn, 1)) (hr0 : μ.2.2.2 = some t) (ht : t.isReference = true) (hv : v.isRef = true) (hQ : Q (some v) H) : W tb K μ rm pc L (v :: S) H Q := by
  intro hL Z a0 p l e R s m args below meth c' T locs cells slots X
  obtain ⟨X0, hx, hZ, hw, hby, hml, hrt, hnm, hlk, hown, hR, hFr, hr1, hr2, hr3, hr4⟩ := X
  obtain ⟨fs, hr, hrun, hended, hW, hsame⟩ := X0.leave (v := some (cv Z.heap.size v)) (fun h => by rw [hrt, hr0] at h; cases h) hlk
  exact ⟨some v, H, T, locs, fs, hQ, retOut X0 hx (hrt.trans hr0) (by cases v <;> first | (cases t <;> rfl) | cases hv) (Or.inr (Or.inr (Or.inr (Or.inr ⟨rfl, ht, by rw [cv_isRef]; exact hv⟩)))) (hb hby hd) hr, hrun, hended, hW, hsame.mono (by omega) (by omega), hFr, hR⟩
/-- what a call leaves of the room -/
abbrev less (rm rm' : Room) : Room := ⟨rm.frames, rm.cells - rm'.cells, rm.slots - rm'.slots, rm.locals⟩
abbrev wt (S : List Value) : Nat := (S.map fun v => v.category).sum
abbrev plainCls (μ' : Mth) : Prop := μ'.1.cls ≠ "java/lang/invoke/MethodHandle" ∧ μ'.1.cls ≠ "java/lang/invoke/VarHandle"
/-- room for a call: S stays on the stack, n locals -/
def rok (rm rm' : Room) (n : Nat) (S : List Value) : Bool := Nat.ble (rm'.frames + 1) rm.frames && (Nat.ble (wt S + (n + 11) + rm'.locals) rm.locals && (Nat.ble rm'.cells rm.cells && Nat.ble rm'.slots rm.slots))
theorem rok_spec {rm rm' : Room} {n : Nat} {S : List Value} (h : rok rm rm' n S = true) : rm'.frames + 1 ≤ rm.frames ∧ wt S + (n + 11) + rm'.locals ≤ rm.locals ∧ rm'.cells ≤ rm.cells ∧ rm'.slots ≤ rm.slots := by
  simp only [rok, Bool.and_eq_true, Nat.ble_eq] at h
  exact h
/-- room for Object's constructor -/
def iok (rm : Room) (S : List Value) : Bool := Nat.ble 1 rm.frames && Nat.ble (wt S + 12) rm.locals
/-- a callee that answers one value and leaves one heap -/
abbrev Is (v0 : Option Value) (H0 : AHeap) : Option Value → AHeap → Prop := fun v H => v = v0 ∧ H = H0
theorem hs {H : AHeap} {i : Nat} {c c' : ACell} (h : H[i]? = some c) : (H.set i c')[i]? = some c' := List.getElem?_set_self (List.getElem?_eq_some_iff.mp h).1
theorem hn {H : AHeap} {i j : Nat} {c c' : ACell} (h : H[j]? = some c) (ne : i ≠ j) : (H.set i c')[j]? = some c := by rw [List.getElem?_set_ne ne]; exact h
theorem ha {H H' : AHeap} {j : Nat} {c : ACell} (h : H[j]? = some c) : (H ++ H')[j]? = some c := by rw [List.getElem?_append_left (List.getElem?_eq_some_iff.mp h).1]; exact h
theorem back_st (k : Nat) (v : Option Value) (S : List Value) : (v.map (cv k)).toList ++ S.map (cv k) = (v.toList ++ S).map (cv k) := by cases v <;> rfl
theorem W.callS {idx : Nat} {as : List Value} {S0 : List Value} {ps : List FieldType} {r : Option FieldType} (hd : decode μ.2.1 pc = .ok (.invokestatic idx, 3)) (w1 : Cond.methodLink μ.1.cls idx μ'.1 ∈ tb) (w2 : Cond.static μ'.1 ∈ tb) (w3 : Cond.initialized μ'.1.cls ∈ tb) (w4 : Cond.code μ'.1 μ'.2.1 μ'.2.2.1 μ'.2.2.2 ∈ tb) (hy : plainCls μ')
    (hp : parseMethodDescriptor μ'.1.desc = some ⟨ps, r⟩) (hlen : as.length = ps.length) (hS : S0 = as.reverse ++ S) (hM : M tb K μ' rm' as H Q') (hr : rok rm rm' μ'.2.2.1 S = true)
    (h : ∀ v H', Q' v H' → W tb K μ (less rm rm') (pc + 3) L (v.toList ++ S) H' Q) : W tb K μ rm pc L S0 H Q := by
  intro hL Z a0 p l e R s m args below meth c' T locs cells slots X
  obtain ⟨X0, hx, hZ, hw, hby, hml, hrt, hnm, hlk, hown, hR, hFr, hr1, hr2, hr3, hr4⟩ := X
  obtain ⟨hf, hl, hc, hs⟩ := rok_spec hr
  obtain ⟨_, vm1, ⟨T1, L1, k1, n1⟩, hW1, X1, ⟨Lc, ⟨v', H', rfl, hR', hq', hFr'⟩, l1, y1, z1⟩, st⟩ := Jvm.LawKit.callS X0 hx (y := μ'.1) hown (mvT hZ (hw _ w1)) (mvT hZ (hw _ w2)) (mvT hZ (hw _ w3)) (mvT hZ (hw _ w4)) hy (backOf (R := R) (rm := rm') (h := T.heap) (Q := fun v h L => ∃ v' H', v = Option.map (cv Z.heap.size) v' ∧ Rel Z K h H' ∧ Q' v' H' ∧ Fr Z.heap.size L) (W := wt S) (hM Z a0 hw l T.heap [] hR) hZ (hw _ w4) (hw _ w3) (by omega) (by omega))
    (g := mkF m pc (L.map (cs Z.heap.size)).toArray (S0.map (cv Z.heap.size))) rfl (by simp [hL, hml]) (argsL := as.map (cv Z.heap.size)) (rest := S.map (cv Z.heap.size)) (lenOf hp (by simpa using hlen)) (by rw [hS]; simp) (by show 2 * 0 + _ ≤ _; rw [cat_map]; exact Nat.le_of_eq (by simp)) (hb hby hd) (fun _ _ => ⟨rfl, rfl, by show cells + _ ≤ _; omega, by show slots + _ ≤ _; omega⟩)
  dsimp only [Pt.U, Pt.locs, Pt.cells, Pt.slots] at X1 l1 y1 z1 st hR'
  subst l1 y1 z1
  rw [back_st] at st
  exact (h v' H' hq' hL Z a0 p l e R s m args below meth c' T1 _ _ _ ⟨X1, hx, hZ, hw, hby, hml, hrt, hnm, hlk, hown, hR', Fr.app hFr hFr', hr1, by show cells + _ + (rm.cells - _) ≤ _; omega, by show slots + _ + (rm.slots - _) ≤ _; omega, hr4⟩).steps st
theorem W.callI {idx i : Nat} {as : List Value} {S0 : List Value} {ps : List FieldType} {r : Option FieldType} (hd : decode μ.2.1 pc = .ok (.invokespecial idx, 3)) (hn : μ'.1.name = "<init>") (hr0 : μ'.2.2.2 = none) (w1 : Cond.methodLink μ.1.cls idx μ'.1 ∈ tb) (w2 : Cond.instanceMethod μ'.1 ∈ tb) (w3 : Cond.initialized μ'.1.cls ∈ tb) (w4 : Cond.code μ'.1 μ'.2.1 μ'.2.2.1 μ'.2.2.2 ∈ tb) (hy : plainCls μ')
    (hp : parseMethodDescriptor μ'.1.desc = some ⟨ps, r⟩) (hlen : as.length = ps.length) (hS : S0 = as.reverse ++ .ref i :: S) (hM : M tb K μ' rm' (.ref i :: as) H Q') (hr : rok rm rm' μ'.2.2.1 S = true)
    (h : ∀ v H', Q' v H' → W tb K μ (less rm rm') (pc + 3) L (v.toList ++ S) H' Q) : W tb K μ rm pc L S0 H Q := by
  intro hL Z a0 p l e R s m args below meth c' T locs cells slots X
  obtain ⟨X0, hx, hZ, hw, hby, hml, hrt, hnm, hlk, hown, hR, hFr, hr1, hr2, hr3, hr4⟩ := X
  obtain ⟨hf, hl, hc, hs⟩ := rok_spec hr
  have w4' : (Cond.code μ'.1 μ'.2.1 μ'.2.2.1 none).before a0 Z = true := by have q := hw _ w4; rw [hr0] at q; exact q
  obtain ⟨_, vm1, ⟨T1, L1, k1, n1⟩, hW1, X1, ⟨Lc, ⟨v', H', rfl, hR', hq', hFr'⟩, l1, y1, z1⟩, st⟩ := X0.specialBack hx (y := μ'.1) hn hown (mvT hZ (hw _ w1)) (mvT hZ (hw _ w2)) (mvT hZ w4') hy (backOf (R := R) (rm := rm') (h := T.heap) (Q := fun v h L => ∃ v' H', v = Option.map (cv Z.heap.size) v' ∧ Rel Z K h H' ∧ Q' v' H' ∧ Fr Z.heap.size L) (W := wt S) (hM Z a0 hw l T.heap [] hR) hZ (hw _ w4) (hw _ w3) (by omega) (by omega))
    (g := mkF m pc (L.map (cs Z.heap.size)).toArray (S0.map (cv Z.heap.size))) rfl (by simp [hL, hml]) (Steps.refl _) (a := Z.heap.size + i) (argsL := as.map (cv Z.heap.size)) (rest := S.map (cv Z.heap.size)) (lenOf hp (by simpa using hlen)) (by rw [hS]; simp [cv]) (by show 2 * 0 + _ ≤ _; rw [cat_map]; exact Nat.le_of_eq (by simp)) (hb hby hd) (fun _ _ => ⟨rfl, rfl, by show cells + _ ≤ _; omega, by show slots + _ ≤ _; omega⟩)
  dsimp only [Pt.U, Pt.locs, Pt.cells, Pt.slots] at X1 l1 y1 z1 st hR'
  subst l1 y1 z1
  rw [back_st] at st
  exact (h v' H' hq' hL Z a0 p l e R s m args below meth c' T1 _ _ _ ⟨X1, hx, hZ, hw, hby, hml, hrt, hnm, hlk, hown, hR', Fr.app hFr hFr', hr1, by show cells + _ + (rm.cells - _) ≤ _; omega, by show slots + _ + (rm.slots - _) ≤ _; omega, hr4⟩).steps (fun t ht => st.trans ht)
/-- the opcode that returns nothing -/
def opReturn : UInt8 := 177
/-- java/lang/Object's constructor -/
theorem W.initO {idx i : Nat} (hd : decode μ.2.1 pc = .ok (.invokespecial idx, 3)) (w1 : Cond.methodLink μ.1.cls idx Lib.objectInit ∈ tb) (w2 : Cond.instanceMethod Lib.objectInit ∈ tb) (w3 : Cond.code Lib.objectInit ⟨#[opReturn]⟩ 1 none ∈ tb) (hr : iok rm S = true)
    (h : W tb K μ rm (pc + 3) L S H Q) : W tb K μ rm pc L (.ref i :: S) H Q := by
  intro hL Z a0 p l e R s m args below meth c' T locs cells slots X
  obtain ⟨X0, hx, hZ, hw, hby, hml, hrt, hnm, hlk, hown, hR, hFr, hr1, hr2, hr3, hr4⟩ := X
  simp only [iok, Bool.and_eq_true, Nat.ble_eq] at hr
  obtain ⟨hf, hl⟩ := hr
  obtain ⟨T1, X1, e1, st⟩ := RoadKit.initO X0 hx hZ hown (hw _ w1) (hw _ w2) (hw _ w3) rfl (g := mkF m pc (L.map (cs Z.heap.size)).toArray ((Value.ref i :: S).map (cv Z.heap.size))) rfl (by simp [hL, hml]) rfl (hb hby hd) (by omega) (W := wt S) (by show 2 * 0 + _ ≤ _; rw [cat_map]; exact Nat.le_of_eq (by simp)) (by omega)
  exact (h hL Z a0 p l e R s m args below meth c' T1 locs cells slots ⟨X1, hx, hZ, hw, hby, hml, hrt, hnm, hlk, hown, e1 ▸ hR, hFr, hr1, hr2, hr3, hr4⟩).steps st
theorem W.callV {idx i c n : Nat} {C : String} {fs : List (String × String × String × FieldType)} {vs : List Value} {y : MethodName} {as : List Value} {S0 : List Value} {ps : List FieldType} {r : Option FieldType} (hd : decode μ.2.1 pc = .ok (.invokevirtual idx, 3)) (w1 : Cond.methodLink μ.1.cls idx y ∈ tb) (w2 : Cond.declares y ∈ tb) (w3 : Cond.selects C y μ'.1 ∈ tb) (hnf : y = μ'.1 ∨ ∃ q ∈ K, q.1 = y.cls) (hKO : KOk tb K)
    (w4 : Cond.instanceMethod μ'.1 ∈ tb) (w5 : Cond.initialized μ'.1.cls ∈ tb) (w6 : Cond.code μ'.1 μ'.2.1 μ'.2.2.1 μ'.2.2.2 ∈ tb) (hy : y.cls ≠ "java/lang/invoke/MethodHandle" ∧ y.cls ≠ "java/lang/invoke/VarHandle") (hK : K[c]? = some (C, n, fs)) (hp : parseMethodDescriptor y.desc = some ⟨ps, r⟩) (hlen : as.length = ps.length) (hS : S0 = as.reverse ++ .ref i :: S)
    (hH : H[i]? = some (.inl (c, vs))) (hM : M tb K μ' rm' (.ref i :: as) H Q') (hr : rok rm rm' μ'.2.2.1 S = true)
    (h : ∀ v H', Q' v H' → W tb K μ (less rm rm') (pc + 3) L (v.toList ++ S) H' Q) : W tb K μ rm pc L S0 H Q := by
  intro hL Z a0 p l e R s m args below meth c' T locs cells slots X
  obtain ⟨X0, hx, hZ, hw, hby, hml, hrt, hnm, hlk, hown, hR, hFr, hr1, hr2, hr3, hr4⟩ := X
  obtain ⟨hf, hl, hc, hs⟩ := rok_spec hr
  obtain ⟨C', n', fs', q1, q2, q3, q4⟩ := hR.2 _ _ hH
  cases hK.symm.trans q1
  obtain ⟨cB, kB, b1, b2, b3⟩ := isOf (T := T) hZ rfl q3
  have nf : NotFace s y := by
    rcases hnf with rfl | ⟨q, hq, hqc⟩
    · exact notFace_of_selects (args := #[]) (mvT hZ (hw _ w3))
    · intro r0 h0
      have g1 := findClass_of_methodNamed h0
      obtain ⟨c1, k1, i1, i2, i3, i4, -⟩ := Cond.instantiable_spec (args := #[]) (s := s) (mv hZ (hw _ (hKO q hq).1))
      rw [hqc] at i1
      cases g1.symm.trans i1
      exact ⟨k1, i2, by simp only [Bool.or_eq_false_iff] at i4; exact i4.1⟩
  obtain ⟨_, vm1, ⟨T1, L1, k1, n1⟩, hW1, X1, ⟨Lc, ⟨v', H', rfl, hR', hq', hFr'⟩, l1, y1, z1⟩, st⟩ := X0.virtualBack hx (y := y) (z := μ'.1) hown (mvT hZ (hw _ w1)) (mvT hZ (hw _ w2)) nf (mvT hZ (hw _ w3)) (mvT hZ (hw _ w4)) hy (backOf (R := R) (rm := rm') (h := T.heap) (Q := fun v h L => ∃ v' H', v = Option.map (cv Z.heap.size) v' ∧ Rel Z K h H' ∧ Q' v' H' ∧ Fr Z.heap.size L) (W := wt S) (hM Z a0 hw l T.heap [] hR) hZ (hw _ w6) (hw _ w5) (by omega) (by omega)) b1 b3
    (g := mkF m pc (L.map (cs Z.heap.size)).toArray (S0.map (cv Z.heap.size))) rfl (by simp [hL, hml]) (Steps.refl _) (argsL := as.map (cv Z.heap.size)) (rest := S.map (cv Z.heap.size)) (lenOf hp (by simpa using hlen)) (by rw [hS]; simp [cv]) (by show 2 * 0 + _ ≤ _; rw [cat_map]; exact Nat.le_of_eq (by simp)) (hb hby hd) (fun _ _ => ⟨rfl, rfl, by show cells + _ ≤ _; omega, by show slots + _ ≤ _; omega⟩)
  dsimp only [Pt.U, Pt.locs, Pt.cells, Pt.slots] at X1 l1 y1 z1 st hR'
  subst l1 y1 z1
  rw [back_st] at st
  exact (h v' H' hq' hL Z a0 p l e R s m args below meth c' T1 _ _ _ ⟨X1, hx, hZ, hw, hby, hml, hrt, hnm, hlk, hown, hR', Fr.app hFr hFr', hr1, by show cells + _ + (rm.cells - _) ≤ _; omega, by show slots + _ + (rm.slots - _) ≤ _; omega, hr4⟩).steps (fun t ht => st.trans ht)
/-- a private method, by invokevirtual -/
theorem W.callP {idx i c n : Nat} {C : String} {fs : List (String × String × String × FieldType)} {vs : List Value} {as : List Value} {S0 : List Value} {ps : List FieldType} {r : Option FieldType} (hd : decode μ.2.1 pc = .ok (.invokevirtual idx, 3)) (w1 : Cond.methodLink μ.1.cls idx μ'.1 ∈ tb) (w2 : Cond.privateMethod μ'.1 ∈ tb) (hKO : KOk tb K)
    (w4 : Cond.instanceMethod μ'.1 ∈ tb) (w5 : Cond.initialized μ'.1.cls ∈ tb) (w6 : Cond.code μ'.1 μ'.2.1 μ'.2.2.1 μ'.2.2.2 ∈ tb) (hy : plainCls μ') (hK : K[c]? = some (C, n, fs)) (hC : C = μ'.1.cls) (hp : parseMethodDescriptor μ'.1.desc = some ⟨ps, r⟩) (hlen : as.length = ps.length) (hS : S0 = as.reverse ++ .ref i :: S)
    (hH : H[i]? = some (.inl (c, vs))) (hM : M tb K μ' rm' (.ref i :: as) H Q') (hr : rok rm rm' μ'.2.2.1 S = true)
    (h : ∀ v H', Q' v H' → W tb K μ (less rm rm') (pc + 3) L (v.toList ++ S) H' Q) : W tb K μ rm pc L S0 H Q := by
  intro hL Z a0 p l e R s m args below meth c' T locs cells slots X
  obtain ⟨X0, hx, hZ, hw, hby, hml, hrt, hnm, hlk, hown, hR, hFr, hr1, hr2, hr3, hr4⟩ := X
  obtain ⟨hf, hl, hc, hs⟩ := rok_spec hr
  obtain ⟨C', n', fs', q1, q2, q3, q4⟩ := hR.2 _ _ hH
  cases hK.symm.trans q1
  obtain ⟨cell, c1, c2⟩ := q3.cell
  obtain ⟨mk, methM, m1, m2, m3, m4⟩ := Cond.instanceMethod_spec (args := args) (mv hZ (hw _ w4))
  obtain ⟨methM', cM, hmethM', -, -, -, -, -, -, hsigM⟩ := Cond.code_spec m1 (mv (args := args) hZ (hw _ w6))
  cases m2.symm.trans hmethM'
  obtain ⟨cc, kk, i1, i2, i3, i4, -⟩ := Cond.instantiable_spec (args := args) (s := s) (mv hZ (hw _ (hKO _ (mem_of_get hK)).1))
  have g1 := findClass_of_methodNamed m1
  rw [← hC] at g1
  cases g1.symm.trans i1
  have hni : kk.isInterface = false := by simp only [Bool.or_eq_false_iff] at i4; exact i4.1
  have hpriv : s.PrivateAt μ'.1 := Cond.privateMethod_at (mvP hZ (hw _ w2) (args := #[]))
  have hsel : selectMethod e.platform s.vm cell.cls mk = .method mk := selectMethod_private m2 (hpriv mk methM m1 m2)
  obtain ⟨vm1, X1', st1⟩ := X0.invokevirtual hx hown (mvT hZ (hw _ w1)) m1 m2 m3 i2 hni hy (a := Z.heap.size + i) (cell := cell) c1 c2 hsel m2 m4 i2 hni (g := mkF m pc (L.map (cs Z.heap.size)).toArray (S0.map (cv Z.heap.size))) rfl (argsL := as.map (cv Z.heap.size)) (rest := S.map (cv Z.heap.size)) (lenOf hp (by simpa using hlen) _ hsigM) (by rw [hS]; simp [cv]) (hb hby hd)
  obtain ⟨_, ⟨T1, L1, k1, n1⟩, X1, ⟨Lc, ⟨v', H', rfl, hR', hq', hFr'⟩, l1, y1, z1⟩, st⟩ := (backOf (R := R) (rm := rm') (h := T.heap) (Q := fun v h L => ∃ v' H', v = Option.map (cv Z.heap.size) v' ∧ Rel Z K h H' ∧ Q' v' H' ∧ Fr Z.heap.size L) (W := wt S) (hM Z a0 hw l T.heap [] hR) hZ (hw _ w6) (hw _ w5) (by omega) (by omega)) m meth c' ⟨T.setVm vm1, locs, cells, slots⟩ (mkF m pc (L.map (cs Z.heap.size)).toArray (S.map (cv Z.heap.size))) (.invokevirtual idx) mk (.ref (Z.heap.size + i) :: as.map (cv Z.heap.size)).toArray X1' rfl (by simp [hL, hml]) (hb hby hd) (by show 2 * 0 + _ ≤ _; rw [cat_map]; exact Nat.le_of_eq (by simp)) (X1'.named m1) ⟨rfl, rfl, by show cells + _ ≤ _; omega, by show slots + _ ≤ _; omega⟩
  dsimp only [Pt.U, Pt.locs, Pt.cells, Pt.slots] at X1 l1 y1 z1 st hR'
  subst l1 y1 z1
  rw [back_st] at st
  exact (h v' H' hq' hL Z a0 p l e R s m args below meth c' T1 _ _ _ ⟨X1, hx, hZ, hw, hby, hml, hrt, hnm, hlk, hown, hR', Fr.app hFr hFr', hr1, by show cells + _ + (rm.cells - _) ≤ _; omega, by show slots + _ + (rm.slots - _) ≤ _; omega, hr4⟩).steps (fun t ht => (st1 _ fun acts => by rw [doInvoke_state]; exact Steps.refl _).trans (st.trans ht))
/-- the locals at the entry -/
def ent : List Value → List Slot
  | [] => []
  | v :: r => if v.category = 2 then .val v :: .second :: ent r else .val v :: ent r
theorem ent_map (k : Nat) (as : List Value) : ent (as.map (cv k)) = (ent as).map (cs k) := by
  induction as with
  | nil => rfl
  | cons v r ih => by_cases h : v.category = 2 <;> simp [ent, h, cv_cat, ih, cs]
theorem fold_ent (as : List Value) : ∀ acc : Array Slot, as.foldl (fun acc v => if v.category = 2 then (acc.push (.val v)).push .second else acc.push (.val v)) acc = acc ++ (ent as).toArray := by
  induction as with
  | nil => intro acc; simp [ent]
  | cons v r ih => intro acc; by_cases h : v.category = 2 <;> simp [ent, h, ih]
theorem locals_of (k n : Nat) (as : List Value) : argsToLocals (as.map (cv k)).toArray n = ((ent as ++ List.replicate (n - (ent as).length) Slot.unset).map (cs k)).toArray := by
  have h : (as.map (cv k)).toArray.foldl (fun (acc : Array Slot) v => if v.category = 2 then (acc.push (.val v)).push .second else acc.push (.val v)) #[] = ((ent as).map (cs k)).toArray := by
    rw [List.foldl_toArray, fold_ent, ent_map]; simp
  simp only [argsToLocals]
  rw [h]
  simp [cs]
theorem M.of {as : List Value} (hn : plainFor μ.1 = true) (hl : ent as ++ List.replicate (μ.2.2.1 - (ent as).length) .unset = L) (hl' : L.length = μ.2.2.1) (h : W tb K μ rm 0 L [] H Q) : M tb K μ rm as H Q := by
  intro Z a0 hw l h0 ws hR
  refine MetFree.of_bodySF hn hisR ?_
  intro p e s m args below meth c s₁ Bd hml0 hP hK
  obtain ⟨rfl, hZ, hh⟩ := hP
  have e0 : s₁.heap = h0 := by rw [← hh, Bd.state]; rfl
  obtain ⟨v, H', T, locs, fs, hq, st, hrun, hended, hW, hsame, hFr, hR'⟩ := h hl' Z a0 p l e rm s m _ below meth c s₁ [] 0 0 ⟨Stand.of_body Bd, Bd.exec, hZ, hw, Bd.bytes, hml0, Bd.returns, (name_of_methodNamed Bd.named Bd.method).1, Bd.notSynchronized, findClass_of_methodNamed Bd.named, e0 ▸ hR, Fr.nil _, Nat.le_refl _, Nat.le_of_eq (Nat.zero_add _), Nat.le_of_eq (Nat.zero_add _), Nat.le_refl _⟩
  have q : entryFrame m (as.map (cv Z.heap.size)).toArray μ.2.2.1 = mkF m 0 (L.map (cs Z.heap.size)).toArray [] := by
    rw [← hl, entryFrame, locals_of]
  exact ⟨_, _, castTop q st, hrun, hended, _, locs, rfl, ⟨v, H', rfl, hR', hq, hFr⟩, ⟨_, rfl⟩, hW, hsame⟩
end Logic
end Jvm.Own
namespace Jvm.Pilot.@@N@@
open Jvm Jvm.ClassFile Sem Op Lib Jvm.Free Jvm.Stand Jvm.LawKit Jvm.RoadKit Jvm.Own Bundle Jvm.Pilot.@@N@@.Jvm.D
/-! PRINTED BY gen.py: the classes, the methods, one lemma a site -/
def KT : KTab := [("com/example/occur/occur/engines/WindowValues$Heights", 10, [("com/example/occur/occur/engines/WindowValues", "frameValues", "[J", (.array .long)), ("com/example/occur/occur/engines/WindowValues", "frameEnds", "[I", (.array .int)), ("com/example/occur/occur/engines/WindowValues", "familySizes", "[I", (.array .int)), ("com/example/occur/occur/engines/WindowValues", "slotCounts", "[I", (.array .int)), ("com/example/occur/occur/engines/WindowValues$Heights", "window", "J", .long), ("com/example/occur/occur/engines/WindowValues$Heights", "starts", "[I", (.array .int)), ("com/example/occur/occur/engines/WindowValues$Heights", "state", "[J", (.array .long)), ("com/example/occur/occur/engines/WindowValues$Heights", "tops", "[J", (.array .long)), ("com/example/occur/occur/engines/WindowValues$Heights", "alone", "J", .long)])]
theorem kt : KOk tables_1 KT := (KOk.cons (List.mem_of_getElem? (i := 2) rfl) (fokS ⟨Or.inl (List.mem_of_getElem? (i := 17) rfl), by decide⟩ (fokS ⟨Or.inl (List.mem_of_getElem? (i := 19) rfl), by decide⟩ (fokS ⟨Or.inr (List.mem_of_getElem? (i := 21) rfl), by decide⟩ (fokS ⟨Or.inr (List.mem_of_getElem? (i := 23) rfl), by decide⟩ (fokS ⟨Or.inr (List.mem_of_getElem? (i := 25) rfl), by decide⟩ (fokS ⟨Or.inr (List.mem_of_getElem? (i := 27) rfl), by decide⟩ (fokS ⟨Or.inr (List.mem_of_getElem? (i := 31) rfl), by decide⟩ (fokS ⟨Or.inr (List.mem_of_getElem? (i := 38) rfl), by decide⟩ (fokS ⟨Or.inl (List.mem_of_getElem? (i := 45) rfl), by decide⟩ fok0))))))))) (by decide) KOk.nil)
abbrev μ0 : Mth := (x, code, 26, ret)
abbrev W0 := W tables_1 KT μ0
abbrev M0 := M tables_1 KT μ0
theorem pf0 : plainFor μ0.1 = true := by first | (refine plainFor_of_name ?_; simp [plainName, overriddenIn, x]; done) | decide +kernel
theorem pd0 : parseMethodDescriptor "(IIIIJI)Z" = some ⟨[.int, .int, .int, .int, .long, .int], some .boolean⟩ := by decide +kernel
abbrev μ1 : Mth := (⟨"com/example/occur/occur/engines/WindowValues$Heights", "<init>", "([I[IJ)V"⟩, prog_40_method_1_code, 7, none)
abbrev W1 := W tables_1 KT μ1
abbrev M1 := M tables_1 KT μ1
theorem pf1 : plainFor μ1.1 = true := by first | (refine plainFor_of_name ?_; simp [plainName, overriddenIn, x]; done) | decide +kernel
theorem pd1 : parseMethodDescriptor "([I[IJ)V" = some ⟨[(.array .int), (.array .int), .long], none⟩ := by decide +kernel
abbrev μ2 : Mth := (⟨"com/example/occur/occur/engines/WindowValues", "<init>", "([I[I)V"⟩, prog_38_method_1_code, 4, none)
abbrev W2 := W tables_1 KT μ2
abbrev M2 := M tables_1 KT μ2
theorem pf2 : plainFor μ2.1 = true := by first | (refine plainFor_of_name ?_; simp [plainName, overriddenIn, x]; done) | decide +kernel
theorem pd2 : parseMethodDescriptor "([I[I)V" = some ⟨[(.array .int), (.array .int)], none⟩ := by decide +kernel
abbrev μ3 : Mth := (⟨"java/util/Arrays", "fill", "([JJ)V"⟩, jdk_65_method_101_code, 5, none)
abbrev W3 := W tables_1 KT μ3
abbrev M3 := M tables_1 KT μ3
theorem pf3 : plainFor μ3.1 = true := by first | (refine plainFor_of_name ?_; simp [plainName, overriddenIn, x]; done) | decide +kernel
theorem pd3 : parseMethodDescriptor "([JJ)V" = some ⟨[(.array .long), .long], none⟩ := by decide +kernel
abbrev μ4 : Mth := (⟨"com/example/occur/occur/engines/WindowValues$Heights", "setAlone", "(I)V"⟩, prog_40_method_3_code, 2, none)
abbrev W4 := W tables_1 KT μ4
abbrev M4 := M tables_1 KT μ4
theorem pf4 : plainFor μ4.1 = true := by first | (refine plainFor_of_name ?_; simp [plainName, overriddenIn, x]; done) | decide +kernel
theorem pd4 : parseMethodDescriptor "(I)V" = some ⟨[.int], none⟩ := by decide +kernel
abbrev μ5 : Mth := (⟨"com/example/occur/occur/engines/WindowValues$Heights", "addWays", "(III)V"⟩, prog_40_method_5_code, 5, none)
abbrev W5 := W tables_1 KT μ5
abbrev M5 := M tables_1 KT μ5
theorem pf5 : plainFor μ5.1 = true := by first | (refine plainFor_of_name ?_; simp [plainName, overriddenIn, x]; done) | decide +kernel
theorem pd5 : parseMethodDescriptor "(III)V" = some ⟨[.int, .int, .int], none⟩ := by decide +kernel
abbrev μ6 : Mth := (⟨"java/lang/Math", "min", "(JJ)J"⟩, jdk_29_method_70_code, 4, some .long)
abbrev W6 := W tables_1 KT μ6
abbrev M6 := M tables_1 KT μ6
theorem pf6 : plainFor μ6.1 = true := by first | (refine plainFor_of_name ?_; simp [plainName, overriddenIn, x]; done) | decide +kernel
theorem pd6 : parseMethodDescriptor "(JJ)J" = some ⟨[.long, .long], some .long⟩ := by decide +kernel
abbrev μ7 : Mth := (⟨"com/example/occur/occur/engines/WindowValues$Heights", "lift", "(II)Z"⟩, prog_40_method_13_code, 5, some .boolean)
abbrev W7 := W tables_1 KT μ7
abbrev M7 := M tables_1 KT μ7
theorem pf7 : plainFor μ7.1 = true := by first | (refine plainFor_of_name ?_; simp [plainName, overriddenIn, x]; done) | decide +kernel
theorem pd7 : parseMethodDescriptor "(II)Z" = some ⟨[.int, .int], some .boolean⟩ := by decide +kernel
abbrev μ8 : Mth := (⟨"com/example/occur/occur/engines/HeightsLiftPinLaw", "fits", "(IIJ)Z"⟩, method_3_code, 4, some .boolean)
abbrev W8 := W tables_1 KT μ8
abbrev M8 := M tables_1 KT μ8
theorem pf8 : plainFor μ8.1 = true := by first | (refine plainFor_of_name ?_; simp [plainName, overriddenIn, x]; done) | decide +kernel
theorem pd8 : parseMethodDescriptor "(IIJ)Z" = some ⟨[.int, .int, .long], some .boolean⟩ := by decide +kernel
abbrev μ9 : Mth := (⟨"com/example/occur/occur/engines/WindowValues$Heights", "deepest", "(II)J"⟩, prog_40_method_2_code, 3, some .long)
abbrev W9 := W tables_1 KT μ9
abbrev M9 := M tables_1 KT μ9
theorem pf9 : plainFor μ9.1 = true := by first | (refine plainFor_of_name ?_; simp [plainName, overriddenIn, x]; done) | decide +kernel
theorem pd9 : parseMethodDescriptor "(II)J" = some ⟨[.int, .int], some .long⟩ := by decide +kernel
theorem e0 {rm : Room} {H : AHeap} {Q : Option Value → AHeap → Prop} {a0 : Int32} {a1 : Int32} {a2 : Int32} {a3 : Int32} {a4 : Int64} {a5 : Int32} (h : W0 rm 0 [.val (.int a0), .val (.int a1), .val (.int a2), .val (.int a3), .val (.long a4), .second, .val (.int a5), .unset, .unset, .unset, .unset, .unset, .unset, .unset, .unset, .unset, .unset, .unset, .unset, .unset, .unset, .unset, .unset, .unset, .unset, .unset] [] H Q) : M0 rm [.int a0, .int a1, .int a2, .int a3, .long a4, .int a5] H Q := M.of pf0 rfl rfl h
theorem e0L {rm : Room} {H : AHeap} {Q : Option Value → AHeap → Prop} {L : List Slot} {as : List Value} (h : W0 rm 0 L [] H Q) (hl : ent as ++ List.replicate (26 - (ent as).length) .unset = L := by rfl) (hn : L.length = 26 := by rfl) : M0 rm as H Q := M.of pf0 hl hn h
theorem s0_0 {rm : Room} {S : List Value} {H : AHeap} {Q : Option Value → AHeap → Prop} {l0 l1 l2 l3 l4 l5 l7 l8 l9 l10 l11 l12 l13 l14 l15 l16 l17 l18 l19 l20 l21 l22 l23 l24 l25 : Slot} {x : Int32} (h : W0 rm 2 [l0, l1, l2, l3, l4, l5, .val (.int x), l7, l8, l9, l10, l11, l12, l13, l14, l15, l16, l17, l18, l19, l20, l21, l22, l23, l24, l25] (.int x :: S) (H) Q) : W0 rm 0 [l0, l1, l2, l3, l4, l5, .val (.int x), l7, l8, l9, l10, l11, l12, l13, l14, l15, l16, l17, l18, l19, l20, l21, l22, l23, l24, l25] (S) H Q := W.iload at_0 rfl h
theorem s0_2 {rm : Room} {S : List Value} {H : AHeap} {Q : Option Value → AHeap → Prop} {l0 l1 l2 l3 l4 l5 l6 l7 l8 l9 l10 l11 l12 l13 l14 l15 l16 l17 l18 l19 l20 l21 l22 l23 l24 l25 : Slot}  (h : W0 rm 3 [l0, l1, l2, l3, l4, l5, l6, l7, l8, l9, l10, l11, l12, l13, l14, l15, l16, l17, l18, l19, l20, l21, l22, l23, l24, l25] (.int 1 :: S) (H) Q) : W0 rm 2 [l0, l1, l2, l3, l4, l5, l6, l7, l8, l9, l10, l11, l12, l13, l14, l15, l16, l17, l18, l19, l20, l21, l22, l23, l24, l25] (S) H Q := W.iconst' at_2 (by decide) h
theorem s0_3 {rm : Room} {S : List Value} {H : AHeap} {Q : Option Value → AHeap → Prop} {l0 l1 l2 l3 l4 l5 l6 l7 l8 l9 l10 l11 l12 l13 l14 l15 l16 l17 l18 l19 l20 l21 l22 l23 l24 l25 : Slot} {x y : Int32} (h : W0 rm 4 [l0, l1, l2, l3, l4, l5, l6, l7, l8, l9, l10, l11, l12, l13, l14, l15, l16, l17, l18, l19, l20, l21, l22, l23, l24, l25] (.int (x &&& y) :: S) (H) Q) : W0 rm 3 [l0, l1, l2, l3, l4, l5, l6, l7, l8, l9, l10, l11, l12, l13, l14, l15, l16, l17, l18, l19, l20, l21, l22, l23, l24, l25] (.int y :: .int x :: S) H Q := W.iand at_3 h
theorem s0_4 {rm : Room} {S : List Value} {H : AHeap} {Q : Option Value → AHeap → Prop} {l0 l1 l2 l3 l4 l5 l6 l7 l8 l9 l10 l11 l12 l13 l14 l15 l16 l17 l18 l19 l20 l21 l22 l23 l24 l25 : Slot} {x : Int32} (h1 : x = 0 → W0 rm 11 [l0, l1, l2, l3, l4, l5, l6, l7, l8, l9, l10, l11, l12, l13, l14, l15, l16, l17, l18, l19, l20, l21, l22, l23, l24, l25] S H Q) (h2 : ¬ x = 0 → W0 rm 7 [l0, l1, l2, l3, l4, l5, l6, l7, l8, l9, l10, l11, l12, l13, l14, l15, l16, l17, l18, l19, l20, l21, l22, l23, l24, l25] S H Q) : W0 rm 4 [l0, l1, l2, l3, l4, l5, l6, l7, l8, l9, l10, l11, l12, l13, l14, l15, l16, l17, l18, l19, l20, l21, l22, l23, l24, l25] (.int x :: S) H Q := W.ifc at_4 (by decide) (by decide) h1 h2
theorem s0_7 {rm : Room} {S : List Value} {H : AHeap} {Q : Option Value → AHeap → Prop} {l0 l1 l2 l3 l4 l5 l6 l7 l8 l9 l10 l11 l12 l13 l14 l15 l16 l17 l18 l19 l20 l21 l22 l23 l24 l25 : Slot}  (h : W0 rm 8 [l0, l1, l2, l3, l4, l5, l6, l7, l8, l9, l10, l11, l12, l13, l14, l15, l16, l17, l18, l19, l20, l21, l22, l23, l24, l25] (.int 1 :: S) (H) Q) : W0 rm 7 [l0, l1, l2, l3, l4, l5, l6, l7, l8, l9, l10, l11, l12, l13, l14, l15, l16, l17, l18, l19, l20, l21, l22, l23, l24, l25] (S) H Q := W.iconst' at_7 (by decide) h
theorem s0_8 {rm : Room} {S : List Value} {H : AHeap} {Q : Option Value → AHeap → Prop} {l0 l1 l2 l3 l4 l5 l6 l7 l8 l9 l10 l11 l12 l13 l14 l15 l16 l17 l18 l19 l20 l21 l22 l23 l24 l25 : Slot}  (h : W0 rm 12 [l0, l1, l2, l3, l4, l5, l6, l7, l8, l9, l10, l11, l12, l13, l14, l15, l16, l17, l18, l19, l20, l21, l22, l23, l24, l25] (S) (H) Q) : W0 rm 8 [l0, l1, l2, l3, l4, l5, l6, l7, l8, l9, l10, l11, l12, l13, l14, l15, l16, l17, l18, l19, l20, l21, l22, l23, l24, l25] (S) H Q := W.goto at_8 (by decide) (by decide) h
theorem s0_11 {rm : Room} {S : List Value} {H : AHeap} {Q : Option Value → AHeap → Prop} {l0 l1 l2 l3 l4 l5 l6 l7 l8 l9 l10 l11 l12 l13 l14 l15 l16 l17 l18 l19 l20 l21 l22 l23 l24 l25 : Slot}  (h : W0 rm 12 [l0, l1, l2, l3, l4, l5, l6, l7, l8, l9, l10, l11, l12, l13, l14, l15, l16, l17, l18, l19, l20, l21, l22, l23, l24, l25] (.int 0 :: S) (H) Q) : W0 rm 11 [l0, l1, l2, l3, l4, l5, l6, l7, l8, l9, l10, l11, l12, l13, l14, l15, l16, l17, l18, l19, l20, l21, l22, l23, l24, l25] (S) H Q := W.iconst' at_11 (by decide) h
theorem s0_12 {rm : Room} {S : List Value} {H : AHeap} {Q : Option Value → AHeap → Prop} {l0 l1 l2 l3 l4 l5 l6 l7 l8 l9 l10 l11 l12 l13 l14 l15 l16 l17 l18 l19 l20 l21 l22 l23 l24 l25 : Slot} {x : Int32} (ho : one l7 = true) (h : W0 rm 14 [l0, l1, l2, l3, l4, l5, l6, .val (.int x), l8, l9, l10, l11, l12, l13, l14, l15, l16, l17, l18, l19, l20, l21, l22, l23, l24, l25] (S) (H) Q) : W0 rm 12 [l0, l1, l2, l3, l4, l5, l6, l7, l8, l9, l10, l11, l12, l13, l14, l15, l16, l17, l18, l19, l20, l21, l22, l23, l24, l25] (.int x :: S) H Q := W.istore at_12 rfl ho h
theorem s0_12w {rm : Room} {S : List Value} {H : AHeap} {Q : Option Value → AHeap → Prop} {l0 l1 l2 l3 l4 l5 l6 l8 l9 l10 l11 l12 l13 l14 l15 l16 l17 l18 l19 l20 l21 l22 l23 l24 l25 : Slot} {w : Value} {x : Int32} (ho : w.category = 2) (h : W0 rm 14 [l0, l1, l2, l3, l4, l5, l6, .val (.int x), .unset, l9, l10, l11, l12, l13, l14, l15, l16, l17, l18, l19, l20, l21, l22, l23, l24, l25] (S) (H) Q) : W0 rm 12 [l0, l1, l2, l3, l4, l5, l6, .val w, l8, l9, l10, l11, l12, l13, l14, l15, l16, l17, l18, l19, l20, l21, l22, l23, l24, l25] (.int x :: S) H Q := W.istoreW at_12 rfl ho (Nat.le_of_ble_eq_true rfl) h
theorem s0_12s {rm : Room} {S : List Value} {H : AHeap} {Q : Option Value → AHeap → Prop} {l0 l1 l2 l3 l4 l5 l6 l8 l9 l10 l11 l12 l13 l14 l15 l16 l17 l18 l19 l20 l21 l22 l23 l24 l25 : Slot} {x : Int32} (h : W0 rm 14 [l0, l1, l2, l3, l4, l5, .unset, .val (.int x), l8, l9, l10, l11, l12, l13, l14, l15, l16, l17, l18, l19, l20, l21, l22, l23, l24, l25] (S) (H) Q) : W0 rm 12 [l0, l1, l2, l3, l4, l5, l6, .second, l8, l9, l10, l11, l12, l13, l14, l15, l16, l17, l18, l19, l20, l21, l22, l23, l24, l25] (.int x :: S) H Q := W.istoreS at_12 rfl (by decide) h
theorem s0_14 {rm : Room} {S : List Value} {H : AHeap} {Q : Option Value → AHeap → Prop} {l0 l1 l2 l3 l4 l5 l7 l8 l9 l10 l11 l12 l13 l14 l15 l16 l17 l18 l19 l20 l21 l22 l23 l24 l25 : Slot} {x : Int32} (h : W0 rm 16 [l0, l1, l2, l3, l4, l5, .val (.int x), l7, l8, l9, l10, l11, l12, l13, l14, l15, l16, l17, l18, l19, l20, l21, l22, l23, l24, l25] (.int x :: S) (H) Q) : W0 rm 14 [l0, l1, l2, l3, l4, l5, .val (.int x), l7, l8, l9, l10, l11, l12, l13, l14, l15, l16, l17, l18, l19, l20, l21, l22, l23, l24, l25] (S) H Q := W.iload at_14 rfl h
theorem s0_16 {rm : Room} {S : List Value} {H : AHeap} {Q : Option Value → AHeap → Prop} {l0 l1 l2 l3 l4 l5 l6 l7 l8 l9 l10 l11 l12 l13 l14 l15 l16 l17 l18 l19 l20 l21 l22 l23 l24 l25 : Slot}  (h : W0 rm 17 [l0, l1, l2, l3, l4, l5, l6, l7, l8, l9, l10, l11, l12, l13, l14, l15, l16, l17, l18, l19, l20, l21, l22, l23, l24, l25] (.int 2 :: S) (H) Q) : W0 rm 16 [l0, l1, l2, l3, l4, l5, l6, l7, l8, l9, l10, l11, l12, l13, l14, l15, l16, l17, l18, l19, l20, l21, l22, l23, l24, l25] (S) H Q := W.iconst' at_16 (by decide) h
theorem s0_17 {rm : Room} {S : List Value} {H : AHeap} {Q : Option Value → AHeap → Prop} {l0 l1 l2 l3 l4 l5 l6 l7 l8 l9 l10 l11 l12 l13 l14 l15 l16 l17 l18 l19 l20 l21 l22 l23 l24 l25 : Slot} {x y : Int32} (h : W0 rm 18 [l0, l1, l2, l3, l4, l5, l6, l7, l8, l9, l10, l11, l12, l13, l14, l15, l16, l17, l18, l19, l20, l21, l22, l23, l24, l25] (.int (x &&& y) :: S) (H) Q) : W0 rm 17 [l0, l1, l2, l3, l4, l5, l6, l7, l8, l9, l10, l11, l12, l13, l14, l15, l16, l17, l18, l19, l20, l21, l22, l23, l24, l25] (.int y :: .int x :: S) H Q := W.iand at_17 h
theorem s0_18 {rm : Room} {S : List Value} {H : AHeap} {Q : Option Value → AHeap → Prop} {l0 l1 l2 l3 l4 l5 l6 l7 l8 l9 l10 l11 l12 l13 l14 l15 l16 l17 l18 l19 l20 l21 l22 l23 l24 l25 : Slot} {x : Int32} (h1 : x = 0 → W0 rm 25 [l0, l1, l2, l3, l4, l5, l6, l7, l8, l9, l10, l11, l12, l13, l14, l15, l16, l17, l18, l19, l20, l21, l22, l23, l24, l25] S H Q) (h2 : ¬ x = 0 → W0 rm 21 [l0, l1, l2, l3, l4, l5, l6, l7, l8, l9, l10, l11, l12, l13, l14, l15, l16, l17, l18, l19, l20, l21, l22, l23, l24, l25] S H Q) : W0 rm 18 [l0, l1, l2, l3, l4, l5, l6, l7, l8, l9, l10, l11, l12, l13, l14, l15, l16, l17, l18, l19, l20, l21, l22, l23, l24, l25] (.int x :: S) H Q := W.ifc at_18 (by decide) (by decide) h1 h2
theorem s0_21 {rm : Room} {S : List Value} {H : AHeap} {Q : Option Value → AHeap → Prop} {l0 l1 l2 l3 l4 l5 l6 l7 l8 l9 l10 l11 l12 l13 l14 l15 l16 l17 l18 l19 l20 l21 l22 l23 l24 l25 : Slot}  (h : W0 rm 22 [l0, l1, l2, l3, l4, l5, l6, l7, l8, l9, l10, l11, l12, l13, l14, l15, l16, l17, l18, l19, l20, l21, l22, l23, l24, l25] (.int 1 :: S) (H) Q) : W0 rm 21 [l0, l1, l2, l3, l4, l5, l6, l7, l8, l9, l10, l11, l12, l13, l14, l15, l16, l17, l18, l19, l20, l21, l22, l23, l24, l25] (S) H Q := W.iconst' at_21 (by decide) h
theorem s0_22 {rm : Room} {S : List Value} {H : AHeap} {Q : Option Value → AHeap → Prop} {l0 l1 l2 l3 l4 l5 l6 l7 l8 l9 l10 l11 l12 l13 l14 l15 l16 l17 l18 l19 l20 l21 l22 l23 l24 l25 : Slot}  (h : W0 rm 26 [l0, l1, l2, l3, l4, l5, l6, l7, l8, l9, l10, l11, l12, l13, l14, l15, l16, l17, l18, l19, l20, l21, l22, l23, l24, l25] (S) (H) Q) : W0 rm 22 [l0, l1, l2, l3, l4, l5, l6, l7, l8, l9, l10, l11, l12, l13, l14, l15, l16, l17, l18, l19, l20, l21, l22, l23, l24, l25] (S) H Q := W.goto at_22 (by decide) (by decide) h
theorem s0_25 {rm : Room} {S : List Value} {H : AHeap} {Q : Option Value → AHeap → Prop} {l0 l1 l2 l3 l4 l5 l6 l7 l8 l9 l10 l11 l12 l13 l14 l15 l16 l17 l18 l19 l20 l21 l22 l23 l24 l25 : Slot}  (h : W0 rm 26 [l0, l1, l2, l3, l4, l5, l6, l7, l8, l9, l10, l11, l12, l13, l14, l15, l16, l17, l18, l19, l20, l21, l22, l23, l24, l25] (.int 0 :: S) (H) Q) : W0 rm 25 [l0, l1, l2, l3, l4, l5, l6, l7, l8, l9, l10, l11, l12, l13, l14, l15, l16, l17, l18, l19, l20, l21, l22, l23, l24, l25] (S) H Q := W.iconst' at_25 (by decide) h
theorem s0_26 {rm : Room} {S : List Value} {H : AHeap} {Q : Option Value → AHeap → Prop} {l0 l1 l2 l3 l4 l5 l6 l7 l8 l9 l10 l11 l12 l13 l14 l15 l16 l17 l18 l19 l20 l21 l22 l23 l24 l25 : Slot} {x : Int32} (ho : one l8 = true) (h : W0 rm 28 [l0, l1, l2, l3, l4, l5, l6, l7, .val (.int x), l9, l10, l11, l12, l13, l14, l15, l16, l17, l18, l19, l20, l21, l22, l23, l24, l25] (S) (H) Q) : W0 rm 26 [l0, l1, l2, l3, l4, l5, l6, l7, l8, l9, l10, l11, l12, l13, l14, l15, l16, l17, l18, l19, l20, l21, l22, l23, l24, l25] (.int x :: S) H Q := W.istore at_26 rfl ho h
theorem s0_26w {rm : Room} {S : List Value} {H : AHeap} {Q : Option Value → AHeap → Prop} {l0 l1 l2 l3 l4 l5 l6 l7 l9 l10 l11 l12 l13 l14 l15 l16 l17 l18 l19 l20 l21 l22 l23 l24 l25 : Slot} {w : Value} {x : Int32} (ho : w.category = 2) (h : W0 rm 28 [l0, l1, l2, l3, l4, l5, l6, l7, .val (.int x), .unset, l10, l11, l12, l13, l14, l15, l16, l17, l18, l19, l20, l21, l22, l23, l24, l25] (S) (H) Q) : W0 rm 26 [l0, l1, l2, l3, l4, l5, l6, l7, .val w, l9, l10, l11, l12, l13, l14, l15, l16, l17, l18, l19, l20, l21, l22, l23, l24, l25] (.int x :: S) H Q := W.istoreW at_26 rfl ho (Nat.le_of_ble_eq_true rfl) h
theorem s0_26s {rm : Room} {S : List Value} {H : AHeap} {Q : Option Value → AHeap → Prop} {l0 l1 l2 l3 l4 l5 l6 l7 l9 l10 l11 l12 l13 l14 l15 l16 l17 l18 l19 l20 l21 l22 l23 l24 l25 : Slot} {x : Int32} (h : W0 rm 28 [l0, l1, l2, l3, l4, l5, l6, .unset, .val (.int x), l9, l10, l11, l12, l13, l14, l15, l16, l17, l18, l19, l20, l21, l22, l23, l24, l25] (S) (H) Q) : W0 rm 26 [l0, l1, l2, l3, l4, l5, l6, l7, .second, l9, l10, l11, l12, l13, l14, l15, l16, l17, l18, l19, l20, l21, l22, l23, l24, l25] (.int x :: S) H Q := W.istoreS at_26 rfl (by decide) h
theorem s0_28 {rm : Room} {S : List Value} {H : AHeap} {Q : Option Value → AHeap → Prop} {l0 l1 l2 l3 l4 l5 l7 l8 l9 l10 l11 l12 l13 l14 l15 l16 l17 l18 l19 l20 l21 l22 l23 l24 l25 : Slot} {x : Int32} (h : W0 rm 30 [l0, l1, l2, l3, l4, l5, .val (.int x), l7, l8, l9, l10, l11, l12, l13, l14, l15, l16, l17, l18, l19, l20, l21, l22, l23, l24, l25] (.int x :: S) (H) Q) : W0 rm 28 [l0, l1, l2, l3, l4, l5, .val (.int x), l7, l8, l9, l10, l11, l12, l13, l14, l15, l16, l17, l18, l19, l20, l21, l22, l23, l24, l25] (S) H Q := W.iload at_28 rfl h
theorem s0_30 {rm : Room} {S : List Value} {H : AHeap} {Q : Option Value → AHeap → Prop} {l0 l1 l2 l3 l4 l5 l6 l7 l8 l9 l10 l11 l12 l13 l14 l15 l16 l17 l18 l19 l20 l21 l22 l23 l24 l25 : Slot}  (h : W0 rm 31 [l0, l1, l2, l3, l4, l5, l6, l7, l8, l9, l10, l11, l12, l13, l14, l15, l16, l17, l18, l19, l20, l21, l22, l23, l24, l25] (.int 4 :: S) (H) Q) : W0 rm 30 [l0, l1, l2, l3, l4, l5, l6, l7, l8, l9, l10, l11, l12, l13, l14, l15, l16, l17, l18, l19, l20, l21, l22, l23, l24, l25] (S) H Q := W.iconst' at_30 (by decide) h
theorem s0_31 {rm : Room} {S : List Value} {H : AHeap} {Q : Option Value → AHeap → Prop} {l0 l1 l2 l3 l4 l5 l6 l7 l8 l9 l10 l11 l12 l13 l14 l15 l16 l17 l18 l19 l20 l21 l22 l23 l24 l25 : Slot} {x y : Int32} (h : W0 rm 32 [l0, l1, l2, l3, l4, l5, l6, l7, l8, l9, l10, l11, l12, l13, l14, l15, l16, l17, l18, l19, l20, l21, l22, l23, l24, l25] (.int (x &&& y) :: S) (H) Q) : W0 rm 31 [l0, l1, l2, l3, l4, l5, l6, l7, l8, l9, l10, l11, l12, l13, l14, l15, l16, l17, l18, l19, l20, l21, l22, l23, l24, l25] (.int y :: .int x :: S) H Q := W.iand at_31 h
theorem s0_32 {rm : Room} {S : List Value} {H : AHeap} {Q : Option Value → AHeap → Prop} {l0 l1 l2 l3 l4 l5 l6 l7 l8 l9 l10 l11 l12 l13 l14 l15 l16 l17 l18 l19 l20 l21 l22 l23 l24 l25 : Slot} {x : Int32} (h1 : x = 0 → W0 rm 39 [l0, l1, l2, l3, l4, l5, l6, l7, l8, l9, l10, l11, l12, l13, l14, l15, l16, l17, l18, l19, l20, l21, l22, l23, l24, l25] S H Q) (h2 : ¬ x = 0 → W0 rm 35 [l0, l1, l2, l3, l4, l5, l6, l7, l8, l9, l10, l11, l12, l13, l14, l15, l16, l17, l18, l19, l20, l21, l22, l23, l24, l25] S H Q) : W0 rm 32 [l0, l1, l2, l3, l4, l5, l6, l7, l8, l9, l10, l11, l12, l13, l14, l15, l16, l17, l18, l19, l20, l21, l22, l23, l24, l25] (.int x :: S) H Q := W.ifc at_32 (by decide) (by decide) h1 h2
theorem s0_35 {rm : Room} {S : List Value} {H : AHeap} {Q : Option Value → AHeap → Prop} {l0 l1 l2 l3 l4 l5 l6 l7 l8 l9 l10 l11 l12 l13 l14 l15 l16 l17 l18 l19 l20 l21 l22 l23 l24 l25 : Slot}  (h : W0 rm 36 [l0, l1, l2, l3, l4, l5, l6, l7, l8, l9, l10, l11, l12, l13, l14, l15, l16, l17, l18, l19, l20, l21, l22, l23, l24, l25] (.int 1 :: S) (H) Q) : W0 rm 35 [l0, l1, l2, l3, l4, l5, l6, l7, l8, l9, l10, l11, l12, l13, l14, l15, l16, l17, l18, l19, l20, l21, l22, l23, l24, l25] (S) H Q := W.iconst' at_35 (by decide) h
theorem s0_36 {rm : Room} {S : List Value} {H : AHeap} {Q : Option Value → AHeap → Prop} {l0 l1 l2 l3 l4 l5 l6 l7 l8 l9 l10 l11 l12 l13 l14 l15 l16 l17 l18 l19 l20 l21 l22 l23 l24 l25 : Slot}  (h : W0 rm 40 [l0, l1, l2, l3, l4, l5, l6, l7, l8, l9, l10, l11, l12, l13, l14, l15, l16, l17, l18, l19, l20, l21, l22, l23, l24, l25] (S) (H) Q) : W0 rm 36 [l0, l1, l2, l3, l4, l5, l6, l7, l8, l9, l10, l11, l12, l13, l14, l15, l16, l17, l18, l19, l20, l21, l22, l23, l24, l25] (S) H Q := W.goto at_36 (by decide) (by decide) h
theorem s0_39 {rm : Room} {S : List Value} {H : AHeap} {Q : Option Value → AHeap → Prop} {l0 l1 l2 l3 l4 l5 l6 l7 l8 l9 l10 l11 l12 l13 l14 l15 l16 l17 l18 l19 l20 l21 l22 l23 l24 l25 : Slot}  (h : W0 rm 40 [l0, l1, l2, l3, l4, l5, l6, l7, l8, l9, l10, l11, l12, l13, l14, l15, l16, l17, l18, l19, l20, l21, l22, l23, l24, l25] (.int 0 :: S) (H) Q) : W0 rm 39 [l0, l1, l2, l3, l4, l5, l6, l7, l8, l9, l10, l11, l12, l13, l14, l15, l16, l17, l18, l19, l20, l21, l22, l23, l24, l25] (S) H Q := W.iconst' at_39 (by decide) h
theorem s0_40 {rm : Room} {S : List Value} {H : AHeap} {Q : Option Value → AHeap → Prop} {l0 l1 l2 l3 l4 l5 l6 l7 l8 l9 l10 l11 l12 l13 l14 l15 l16 l17 l18 l19 l20 l21 l22 l23 l24 l25 : Slot} {x : Int32} (ho : one l9 = true) (h : W0 rm 42 [l0, l1, l2, l3, l4, l5, l6, l7, l8, .val (.int x), l10, l11, l12, l13, l14, l15, l16, l17, l18, l19, l20, l21, l22, l23, l24, l25] (S) (H) Q) : W0 rm 40 [l0, l1, l2, l3, l4, l5, l6, l7, l8, l9, l10, l11, l12, l13, l14, l15, l16, l17, l18, l19, l20, l21, l22, l23, l24, l25] (.int x :: S) H Q := W.istore at_40 rfl ho h
theorem s0_40w {rm : Room} {S : List Value} {H : AHeap} {Q : Option Value → AHeap → Prop} {l0 l1 l2 l3 l4 l5 l6 l7 l8 l10 l11 l12 l13 l14 l15 l16 l17 l18 l19 l20 l21 l22 l23 l24 l25 : Slot} {w : Value} {x : Int32} (ho : w.category = 2) (h : W0 rm 42 [l0, l1, l2, l3, l4, l5, l6, l7, l8, .val (.int x), .unset, l11, l12, l13, l14, l15, l16, l17, l18, l19, l20, l21, l22, l23, l24, l25] (S) (H) Q) : W0 rm 40 [l0, l1, l2, l3, l4, l5, l6, l7, l8, .val w, l10, l11, l12, l13, l14, l15, l16, l17, l18, l19, l20, l21, l22, l23, l24, l25] (.int x :: S) H Q := W.istoreW at_40 rfl ho (Nat.le_of_ble_eq_true rfl) h
theorem s0_40s {rm : Room} {S : List Value} {H : AHeap} {Q : Option Value → AHeap → Prop} {l0 l1 l2 l3 l4 l5 l6 l7 l8 l10 l11 l12 l13 l14 l15 l16 l17 l18 l19 l20 l21 l22 l23 l24 l25 : Slot} {x : Int32} (h : W0 rm 42 [l0, l1, l2, l3, l4, l5, l6, l7, .unset, .val (.int x), l10, l11, l12, l13, l14, l15, l16, l17, l18, l19, l20, l21, l22, l23, l24, l25] (S) (H) Q) : W0 rm 40 [l0, l1, l2, l3, l4, l5, l6, l7, l8, .second, l10, l11, l12, l13, l14, l15, l16, l17, l18, l19, l20, l21, l22, l23, l24, l25] (.int x :: S) H Q := W.istoreS at_40 rfl (by decide) h
theorem s0_42 {rm : Room} {S : List Value} {H : AHeap} {Q : Option Value → AHeap → Prop} {l0 l1 l2 l3 l4 l5 l7 l8 l9 l10 l11 l12 l13 l14 l15 l16 l17 l18 l19 l20 l21 l22 l23 l24 l25 : Slot} {x : Int32} (h : W0 rm 44 [l0, l1, l2, l3, l4, l5, .val (.int x), l7, l8, l9, l10, l11, l12, l13, l14, l15, l16, l17, l18, l19, l20, l21, l22, l23, l24, l25] (.int x :: S) (H) Q) : W0 rm 42 [l0, l1, l2, l3, l4, l5, .val (.int x), l7, l8, l9, l10, l11, l12, l13, l14, l15, l16, l17, l18, l19, l20, l21, l22, l23, l24, l25] (S) H Q := W.iload at_42 rfl h
theorem s0_44 {rm : Room} {S : List Value} {H : AHeap} {Q : Option Value → AHeap → Prop} {l0 l1 l2 l3 l4 l5 l6 l7 l8 l9 l10 l11 l12 l13 l14 l15 l16 l17 l18 l19 l20 l21 l22 l23 l24 l25 : Slot}  (h : W0 rm 46 [l0, l1, l2, l3, l4, l5, l6, l7, l8, l9, l10, l11, l12, l13, l14, l15, l16, l17, l18, l19, l20, l21, l22, l23, l24, l25] (.int 8 :: S) (H) Q) : W0 rm 44 [l0, l1, l2, l3, l4, l5, l6, l7, l8, l9, l10, l11, l12, l13, l14, l15, l16, l17, l18, l19, l20, l21, l22, l23, l24, l25] (S) H Q := W.bipush' at_44 (by decide) h
theorem s0_46 {rm : Room} {S : List Value} {H : AHeap} {Q : Option Value → AHeap → Prop} {l0 l1 l2 l3 l4 l5 l6 l7 l8 l9 l10 l11 l12 l13 l14 l15 l16 l17 l18 l19 l20 l21 l22 l23 l24 l25 : Slot} {x y : Int32} (h : W0 rm 47 [l0, l1, l2, l3, l4, l5, l6, l7, l8, l9, l10, l11, l12, l13, l14, l15, l16, l17, l18, l19, l20, l21, l22, l23, l24, l25] (.int (x &&& y) :: S) (H) Q) : W0 rm 46 [l0, l1, l2, l3, l4, l5, l6, l7, l8, l9, l10, l11, l12, l13, l14, l15, l16, l17, l18, l19, l20, l21, l22, l23, l24, l25] (.int y :: .int x :: S) H Q := W.iand at_46 h
theorem s0_47 {rm : Room} {S : List Value} {H : AHeap} {Q : Option Value → AHeap → Prop} {l0 l1 l2 l3 l4 l5 l6 l7 l8 l9 l10 l11 l12 l13 l14 l15 l16 l17 l18 l19 l20 l21 l22 l23 l24 l25 : Slot} {x : Int32} (h1 : x = 0 → W0 rm 54 [l0, l1, l2, l3, l4, l5, l6, l7, l8, l9, l10, l11, l12, l13, l14, l15, l16, l17, l18, l19, l20, l21, l22, l23, l24, l25] S H Q) (h2 : ¬ x = 0 → W0 rm 50 [l0, l1, l2, l3, l4, l5, l6, l7, l8, l9, l10, l11, l12, l13, l14, l15, l16, l17, l18, l19, l20, l21, l22, l23, l24, l25] S H Q) : W0 rm 47 [l0, l1, l2, l3, l4, l5, l6, l7, l8, l9, l10, l11, l12, l13, l14, l15, l16, l17, l18, l19, l20, l21, l22, l23, l24, l25] (.int x :: S) H Q := W.ifc at_47 (by decide) (by decide) h1 h2
theorem s0_50 {rm : Room} {S : List Value} {H : AHeap} {Q : Option Value → AHeap → Prop} {l0 l1 l2 l3 l4 l5 l6 l7 l8 l9 l10 l11 l12 l13 l14 l15 l16 l17 l18 l19 l20 l21 l22 l23 l24 l25 : Slot}  (h : W0 rm 51 [l0, l1, l2, l3, l4, l5, l6, l7, l8, l9, l10, l11, l12, l13, l14, l15, l16, l17, l18, l19, l20, l21, l22, l23, l24, l25] (.int 1 :: S) (H) Q) : W0 rm 50 [l0, l1, l2, l3, l4, l5, l6, l7, l8, l9, l10, l11, l12, l13, l14, l15, l16, l17, l18, l19, l20, l21, l22, l23, l24, l25] (S) H Q := W.iconst' at_50 (by decide) h
theorem s0_51 {rm : Room} {S : List Value} {H : AHeap} {Q : Option Value → AHeap → Prop} {l0 l1 l2 l3 l4 l5 l6 l7 l8 l9 l10 l11 l12 l13 l14 l15 l16 l17 l18 l19 l20 l21 l22 l23 l24 l25 : Slot}  (h : W0 rm 55 [l0, l1, l2, l3, l4, l5, l6, l7, l8, l9, l10, l11, l12, l13, l14, l15, l16, l17, l18, l19, l20, l21, l22, l23, l24, l25] (S) (H) Q) : W0 rm 51 [l0, l1, l2, l3, l4, l5, l6, l7, l8, l9, l10, l11, l12, l13, l14, l15, l16, l17, l18, l19, l20, l21, l22, l23, l24, l25] (S) H Q := W.goto at_51 (by decide) (by decide) h
theorem s0_54 {rm : Room} {S : List Value} {H : AHeap} {Q : Option Value → AHeap → Prop} {l0 l1 l2 l3 l4 l5 l6 l7 l8 l9 l10 l11 l12 l13 l14 l15 l16 l17 l18 l19 l20 l21 l22 l23 l24 l25 : Slot}  (h : W0 rm 55 [l0, l1, l2, l3, l4, l5, l6, l7, l8, l9, l10, l11, l12, l13, l14, l15, l16, l17, l18, l19, l20, l21, l22, l23, l24, l25] (.int 0 :: S) (H) Q) : W0 rm 54 [l0, l1, l2, l3, l4, l5, l6, l7, l8, l9, l10, l11, l12, l13, l14, l15, l16, l17, l18, l19, l20, l21, l22, l23, l24, l25] (S) H Q := W.iconst' at_54 (by decide) h
theorem s0_55 {rm : Room} {S : List Value} {H : AHeap} {Q : Option Value → AHeap → Prop} {l0 l1 l2 l3 l4 l5 l6 l7 l8 l9 l10 l11 l12 l13 l14 l15 l16 l17 l18 l19 l20 l21 l22 l23 l24 l25 : Slot} {x : Int32} (ho : one l10 = true) (h : W0 rm 57 [l0, l1, l2, l3, l4, l5, l6, l7, l8, l9, .val (.int x), l11, l12, l13, l14, l15, l16, l17, l18, l19, l20, l21, l22, l23, l24, l25] (S) (H) Q) : W0 rm 55 [l0, l1, l2, l3, l4, l5, l6, l7, l8, l9, l10, l11, l12, l13, l14, l15, l16, l17, l18, l19, l20, l21, l22, l23, l24, l25] (.int x :: S) H Q := W.istore at_55 rfl ho h
theorem s0_55w {rm : Room} {S : List Value} {H : AHeap} {Q : Option Value → AHeap → Prop} {l0 l1 l2 l3 l4 l5 l6 l7 l8 l9 l11 l12 l13 l14 l15 l16 l17 l18 l19 l20 l21 l22 l23 l24 l25 : Slot} {w : Value} {x : Int32} (ho : w.category = 2) (h : W0 rm 57 [l0, l1, l2, l3, l4, l5, l6, l7, l8, l9, .val (.int x), .unset, l12, l13, l14, l15, l16, l17, l18, l19, l20, l21, l22, l23, l24, l25] (S) (H) Q) : W0 rm 55 [l0, l1, l2, l3, l4, l5, l6, l7, l8, l9, .val w, l11, l12, l13, l14, l15, l16, l17, l18, l19, l20, l21, l22, l23, l24, l25] (.int x :: S) H Q := W.istoreW at_55 rfl ho (Nat.le_of_ble_eq_true rfl) h
theorem s0_55s {rm : Room} {S : List Value} {H : AHeap} {Q : Option Value → AHeap → Prop} {l0 l1 l2 l3 l4 l5 l6 l7 l8 l9 l11 l12 l13 l14 l15 l16 l17 l18 l19 l20 l21 l22 l23 l24 l25 : Slot} {x : Int32} (h : W0 rm 57 [l0, l1, l2, l3, l4, l5, l6, l7, l8, .unset, .val (.int x), l11, l12, l13, l14, l15, l16, l17, l18, l19, l20, l21, l22, l23, l24, l25] (S) (H) Q) : W0 rm 55 [l0, l1, l2, l3, l4, l5, l6, l7, l8, l9, .second, l11, l12, l13, l14, l15, l16, l17, l18, l19, l20, l21, l22, l23, l24, l25] (.int x :: S) H Q := W.istoreS at_55 rfl (by decide) h
theorem s0_57 {rm : Room} {S : List Value} {H : AHeap} {Q : Option Value → AHeap → Prop} {l0 l1 l2 l3 l4 l5 l6 l7 l8 l9 l10 l11 l12 l13 l14 l15 l16 l17 l18 l19 l20 l21 l22 l23 l24 l25 : Slot}  (h : W0 rm 58 [l0, l1, l2, l3, l4, l5, l6, l7, l8, l9, l10, l11, l12, l13, l14, l15, l16, l17, l18, l19, l20, l21, l22, l23, l24, l25] (.int 2 :: S) (H) Q) : W0 rm 57 [l0, l1, l2, l3, l4, l5, l6, l7, l8, l9, l10, l11, l12, l13, l14, l15, l16, l17, l18, l19, l20, l21, l22, l23, l24, l25] (S) H Q := W.iconst' at_57 (by decide) h
theorem s0_58 {rm : Room} {S : List Value} {H : AHeap} {Q : Option Value → AHeap → Prop} {l0 l1 l2 l3 l4 l5 l6 l7 l8 l9 l10 l11 l12 l13 l14 l15 l16 l17 l18 l19 l20 l21 l22 l23 l24 l25 : Slot} {n : Int32} (i N : Nat) (hn : ix n N) (hi : H.length = i) (hr : nok rm N = true) (h : W0 ⟨rm.frames, rm.cells - 1, rm.slots - N, rm.locals⟩ 60 [l0, l1, l2, l3, l4, l5, l6, l7, l8, l9, l10, l11, l12, l13, l14, l15, l16, l17, l18, l19, l20, l21, l22, l23, l24, l25] (.ref i :: S) (H ++ [.inr (.int, List.replicate N (.int 0))]) Q) : W0 rm 58 [l0, l1, l2, l3, l4, l5, l6, l7, l8, l9, l10, l11, l12, l13, l14, l15, l16, l17, l18, l19, l20, l21, l22, l23, l24, l25] (.int n :: S) H Q := W.newarray (ty := .int) (d := .int 0) at_58 rfl (List.mem_of_getElem? (i := 0) rfl) rfl hn hi hr h
theorem s0_60 {rm : Room} {S : List Value} {H : AHeap} {Q : Option Value → AHeap → Prop} {l0 l1 l2 l3 l4 l5 l6 l7 l8 l9 l10 l11 l12 l13 l14 l15 l16 l17 l18 l19 l20 l21 l22 l23 l24 l25 : Slot} {v : Value} (hc : v.category = 1) (h : W0 rm 61 [l0, l1, l2, l3, l4, l5, l6, l7, l8, l9, l10, l11, l12, l13, l14, l15, l16, l17, l18, l19, l20, l21, l22, l23, l24, l25] (v :: v :: S) (H) Q) : W0 rm 60 [l0, l1, l2, l3, l4, l5, l6, l7, l8, l9, l10, l11, l12, l13, l14, l15, l16, l17, l18, l19, l20, l21, l22, l23, l24, l25] (v :: S) H Q := W.dup at_60 hc h
theorem s0_61 {rm : Room} {S : List Value} {H : AHeap} {Q : Option Value → AHeap → Prop} {l0 l1 l2 l3 l4 l5 l6 l7 l8 l9 l10 l11 l12 l13 l14 l15 l16 l17 l18 l19 l20 l21 l22 l23 l24 l25 : Slot}  (h : W0 rm 62 [l0, l1, l2, l3, l4, l5, l6, l7, l8, l9, l10, l11, l12, l13, l14, l15, l16, l17, l18, l19, l20, l21, l22, l23, l24, l25] (.int 0 :: S) (H) Q) : W0 rm 61 [l0, l1, l2, l3, l4, l5, l6, l7, l8, l9, l10, l11, l12, l13, l14, l15, l16, l17, l18, l19, l20, l21, l22, l23, l24, l25] (S) H Q := W.iconst' at_61 (by decide) h
theorem s0_62 {rm : Room} {S : List Value} {H : AHeap} {Q : Option Value → AHeap → Prop} {l0 l1 l2 l3 l4 l5 l6 l7 l8 l9 l10 l11 l12 l13 l14 l15 l16 l17 l18 l19 l20 l21 l22 l23 l24 l25 : Slot}  (h : W0 rm 63 [l0, l1, l2, l3, l4, l5, l6, l7, l8, l9, l10, l11, l12, l13, l14, l15, l16, l17, l18, l19, l20, l21, l22, l23, l24, l25] (.int 0 :: S) (H) Q) : W0 rm 62 [l0, l1, l2, l3, l4, l5, l6, l7, l8, l9, l10, l11, l12, l13, l14, l15, l16, l17, l18, l19, l20, l21, l22, l23, l24, l25] (S) H Q := W.iconst' at_62 (by decide) h
theorem s0_63 {rm : Room} {S : List Value} {H : AHeap} {Q : Option Value → AHeap → Prop} {l0 l1 l2 l3 l4 l5 l6 l7 l8 l9 l10 l11 l12 l13 l14 l15 l16 l17 l18 l19 l20 l21 l22 l23 l24 l25 : Slot} {i : Nat} {j : Int32} {x : Int32} {vs : List Value} (N : Nat) (hH : H[i]? = some (.inr (.int, vs))) (hj : ix j N) (hl : Nat.blt N vs.length = true) (h : W0 rm 64 [l0, l1, l2, l3, l4, l5, l6, l7, l8, l9, l10, l11, l12, l13, l14, l15, l16, l17, l18, l19, l20, l21, l22, l23, l24, l25] (S) (H.set i (.inr (.int, vs.set N (.int x)))) Q) : W0 rm 63 [l0, l1, l2, l3, l4, l5, l6, l7, l8, l9, l10, l11, l12, l13, l14, l15, l16, l17, l18, l19, l20, l21, l22, l23, l24, l25] (.int x :: .int j :: .ref i :: S) H Q := W.iastore at_63 hH hj hl h
theorem s0_64 {rm : Room} {S : List Value} {H : AHeap} {Q : Option Value → AHeap → Prop} {l0 l1 l2 l3 l4 l5 l6 l7 l8 l9 l10 l11 l12 l13 l14 l15 l16 l17 l18 l19 l20 l21 l22 l23 l24 l25 : Slot} {v : Value} (hc : v.category = 1) (h : W0 rm 65 [l0, l1, l2, l3, l4, l5, l6, l7, l8, l9, l10, l11, l12, l13, l14, l15, l16, l17, l18, l19, l20, l21, l22, l23, l24, l25] (v :: v :: S) (H) Q) : W0 rm 64 [l0, l1, l2, l3, l4, l5, l6, l7, l8, l9, l10, l11, l12, l13, l14, l15, l16, l17, l18, l19, l20, l21, l22, l23, l24, l25] (v :: S) H Q := W.dup at_64 hc h
theorem s0_65 {rm : Room} {S : List Value} {H : AHeap} {Q : Option Value → AHeap → Prop} {l0 l1 l2 l3 l4 l5 l6 l7 l8 l9 l10 l11 l12 l13 l14 l15 l16 l17 l18 l19 l20 l21 l22 l23 l24 l25 : Slot}  (h : W0 rm 66 [l0, l1, l2, l3, l4, l5, l6, l7, l8, l9, l10, l11, l12, l13, l14, l15, l16, l17, l18, l19, l20, l21, l22, l23, l24, l25] (.int 1 :: S) (H) Q) : W0 rm 65 [l0, l1, l2, l3, l4, l5, l6, l7, l8, l9, l10, l11, l12, l13, l14, l15, l16, l17, l18, l19, l20, l21, l22, l23, l24, l25] (S) H Q := W.iconst' at_65 (by decide) h
theorem s0_66 {rm : Room} {S : List Value} {H : AHeap} {Q : Option Value → AHeap → Prop} {l0 l1 l2 l3 l4 l5 l6 l7 l8 l9 l10 l11 l12 l13 l14 l15 l16 l17 l18 l19 l20 l21 l22 l23 l24 l25 : Slot}  (h : W0 rm 67 [l0, l1, l2, l3, l4, l5, l6, l7, l8, l9, l10, l11, l12, l13, l14, l15, l16, l17, l18, l19, l20, l21, l22, l23, l24, l25] (.int 1 :: S) (H) Q) : W0 rm 66 [l0, l1, l2, l3, l4, l5, l6, l7, l8, l9, l10, l11, l12, l13, l14, l15, l16, l17, l18, l19, l20, l21, l22, l23, l24, l25] (S) H Q := W.iconst' at_66 (by decide) h
theorem s0_67 {rm : Room} {S : List Value} {H : AHeap} {Q : Option Value → AHeap → Prop} {l0 l1 l2 l3 l4 l5 l6 l7 l8 l9 l10 l11 l12 l13 l14 l15 l16 l17 l18 l19 l20 l21 l22 l23 l24 l25 : Slot} {i : Nat} {j : Int32} {x : Int32} {vs : List Value} (N : Nat) (hH : H[i]? = some (.inr (.int, vs))) (hj : ix j N) (hl : Nat.blt N vs.length = true) (h : W0 rm 68 [l0, l1, l2, l3, l4, l5, l6, l7, l8, l9, l10, l11, l12, l13, l14, l15, l16, l17, l18, l19, l20, l21, l22, l23, l24, l25] (S) (H.set i (.inr (.int, vs.set N (.int x)))) Q) : W0 rm 67 [l0, l1, l2, l3, l4, l5, l6, l7, l8, l9, l10, l11, l12, l13, l14, l15, l16, l17, l18, l19, l20, l21, l22, l23, l24, l25] (.int x :: .int j :: .ref i :: S) H Q := W.iastore at_67 hH hj hl h
theorem s0_68 {rm : Room} {S : List Value} {H : AHeap} {Q : Option Value → AHeap → Prop} {l0 l1 l2 l3 l4 l5 l6 l7 l8 l9 l10 l11 l12 l13 l14 l15 l16 l17 l18 l19 l20 l21 l22 l23 l24 l25 : Slot} {i : Nat} (ho : one l11 = true) (h : W0 rm 70 [l0, l1, l2, l3, l4, l5, l6, l7, l8, l9, l10, .val (.ref i), l12, l13, l14, l15, l16, l17, l18, l19, l20, l21, l22, l23, l24, l25] (S) (H) Q) : W0 rm 68 [l0, l1, l2, l3, l4, l5, l6, l7, l8, l9, l10, l11, l12, l13, l14, l15, l16, l17, l18, l19, l20, l21, l22, l23, l24, l25] (.ref i :: S) H Q := W.astore at_68 rfl ho rfl h
theorem s0_70 {rm : Room} {S : List Value} {H : AHeap} {Q : Option Value → AHeap → Prop} {l0 l1 l2 l3 l4 l5 l6 l7 l8 l9 l10 l11 l12 l13 l14 l15 l16 l17 l18 l19 l20 l21 l22 l23 l24 l25 : Slot}  (h : W0 rm 71 [l0, l1, l2, l3, l4, l5, l6, l7, l8, l9, l10, l11, l12, l13, l14, l15, l16, l17, l18, l19, l20, l21, l22, l23, l24, l25] (.int 2 :: S) (H) Q) : W0 rm 70 [l0, l1, l2, l3, l4, l5, l6, l7, l8, l9, l10, l11, l12, l13, l14, l15, l16, l17, l18, l19, l20, l21, l22, l23, l24, l25] (S) H Q := W.iconst' at_70 (by decide) h
theorem s0_71 {rm : Room} {S : List Value} {H : AHeap} {Q : Option Value → AHeap → Prop} {l0 l1 l2 l3 l4 l5 l6 l7 l8 l9 l10 l11 l12 l13 l14 l15 l16 l17 l18 l19 l20 l21 l22 l23 l24 l25 : Slot} {n : Int32} (i N : Nat) (hn : ix n N) (hi : H.length = i) (hr : nok rm N = true) (h : W0 ⟨rm.frames, rm.cells - 1, rm.slots - N, rm.locals⟩ 73 [l0, l1, l2, l3, l4, l5, l6, l7, l8, l9, l10, l11, l12, l13, l14, l15, l16, l17, l18, l19, l20, l21, l22, l23, l24, l25] (.ref i :: S) (H ++ [.inr (.int, List.replicate N (.int 0))]) Q) : W0 rm 71 [l0, l1, l2, l3, l4, l5, l6, l7, l8, l9, l10, l11, l12, l13, l14, l15, l16, l17, l18, l19, l20, l21, l22, l23, l24, l25] (.int n :: S) H Q := W.newarray (ty := .int) (d := .int 0) at_71 rfl (List.mem_of_getElem? (i := 0) rfl) rfl hn hi hr h
theorem s0_73 {rm : Room} {S : List Value} {H : AHeap} {Q : Option Value → AHeap → Prop} {l0 l1 l2 l3 l4 l5 l6 l7 l8 l9 l10 l11 l12 l13 l14 l15 l16 l17 l18 l19 l20 l21 l22 l23 l24 l25 : Slot} {v : Value} (hc : v.category = 1) (h : W0 rm 74 [l0, l1, l2, l3, l4, l5, l6, l7, l8, l9, l10, l11, l12, l13, l14, l15, l16, l17, l18, l19, l20, l21, l22, l23, l24, l25] (v :: v :: S) (H) Q) : W0 rm 73 [l0, l1, l2, l3, l4, l5, l6, l7, l8, l9, l10, l11, l12, l13, l14, l15, l16, l17, l18, l19, l20, l21, l22, l23, l24, l25] (v :: S) H Q := W.dup at_73 hc h
theorem s0_74 {rm : Room} {S : List Value} {H : AHeap} {Q : Option Value → AHeap → Prop} {l0 l1 l2 l3 l4 l5 l6 l7 l8 l9 l10 l11 l12 l13 l14 l15 l16 l17 l18 l19 l20 l21 l22 l23 l24 l25 : Slot}  (h : W0 rm 75 [l0, l1, l2, l3, l4, l5, l6, l7, l8, l9, l10, l11, l12, l13, l14, l15, l16, l17, l18, l19, l20, l21, l22, l23, l24, l25] (.int 0 :: S) (H) Q) : W0 rm 74 [l0, l1, l2, l3, l4, l5, l6, l7, l8, l9, l10, l11, l12, l13, l14, l15, l16, l17, l18, l19, l20, l21, l22, l23, l24, l25] (S) H Q := W.iconst' at_74 (by decide) h
theorem s0_75 {rm : Room} {S : List Value} {H : AHeap} {Q : Option Value → AHeap → Prop} {l0 l1 l2 l3 l4 l5 l6 l7 l8 l9 l10 l11 l12 l13 l14 l15 l16 l17 l18 l19 l20 l21 l22 l23 l24 l25 : Slot}  (h : W0 rm 76 [l0, l1, l2, l3, l4, l5, l6, l7, l8, l9, l10, l11, l12, l13, l14, l15, l16, l17, l18, l19, l20, l21, l22, l23, l24, l25] (.int 1 :: S) (H) Q) : W0 rm 75 [l0, l1, l2, l3, l4, l5, l6, l7, l8, l9, l10, l11, l12, l13, l14, l15, l16, l17, l18, l19, l20, l21, l22, l23, l24, l25] (S) H Q := W.iconst' at_75 (by decide) h
theorem s0_76 {rm : Room} {S : List Value} {H : AHeap} {Q : Option Value → AHeap → Prop} {l0 l1 l2 l3 l4 l5 l6 l7 l8 l9 l10 l11 l12 l13 l14 l15 l16 l17 l18 l19 l20 l21 l22 l23 l24 l25 : Slot} {i : Nat} {j : Int32} {x : Int32} {vs : List Value} (N : Nat) (hH : H[i]? = some (.inr (.int, vs))) (hj : ix j N) (hl : Nat.blt N vs.length = true) (h : W0 rm 77 [l0, l1, l2, l3, l4, l5, l6, l7, l8, l9, l10, l11, l12, l13, l14, l15, l16, l17, l18, l19, l20, l21, l22, l23, l24, l25] (S) (H.set i (.inr (.int, vs.set N (.int x)))) Q) : W0 rm 76 [l0, l1, l2, l3, l4, l5, l6, l7, l8, l9, l10, l11, l12, l13, l14, l15, l16, l17, l18, l19, l20, l21, l22, l23, l24, l25] (.int x :: .int j :: .ref i :: S) H Q := W.iastore at_76 hH hj hl h
theorem s0_77 {rm : Room} {S : List Value} {H : AHeap} {Q : Option Value → AHeap → Prop} {l0 l1 l2 l3 l4 l5 l6 l7 l8 l9 l10 l11 l12 l13 l14 l15 l16 l17 l18 l19 l20 l21 l22 l23 l24 l25 : Slot} {v : Value} (hc : v.category = 1) (h : W0 rm 78 [l0, l1, l2, l3, l4, l5, l6, l7, l8, l9, l10, l11, l12, l13, l14, l15, l16, l17, l18, l19, l20, l21, l22, l23, l24, l25] (v :: v :: S) (H) Q) : W0 rm 77 [l0, l1, l2, l3, l4, l5, l6, l7, l8, l9, l10, l11, l12, l13, l14, l15, l16, l17, l18, l19, l20, l21, l22, l23, l24, l25] (v :: S) H Q := W.dup at_77 hc h
theorem s0_78 {rm : Room} {S : List Value} {H : AHeap} {Q : Option Value → AHeap → Prop} {l0 l1 l2 l3 l4 l5 l6 l7 l8 l9 l10 l11 l12 l13 l14 l15 l16 l17 l18 l19 l20 l21 l22 l23 l24 l25 : Slot}  (h : W0 rm 79 [l0, l1, l2, l3, l4, l5, l6, l7, l8, l9, l10, l11, l12, l13, l14, l15, l16, l17, l18, l19, l20, l21, l22, l23, l24, l25] (.int 1 :: S) (H) Q) : W0 rm 78 [l0, l1, l2, l3, l4, l5, l6, l7, l8, l9, l10, l11, l12, l13, l14, l15, l16, l17, l18, l19, l20, l21, l22, l23, l24, l25] (S) H Q := W.iconst' at_78 (by decide) h
theorem s0_79 {rm : Room} {S : List Value} {H : AHeap} {Q : Option Value → AHeap → Prop} {l0 l1 l2 l3 l4 l5 l6 l7 l8 l9 l10 l11 l12 l13 l14 l15 l16 l17 l18 l19 l20 l21 l22 l23 l24 l25 : Slot}  (h : W0 rm 80 [l0, l1, l2, l3, l4, l5, l6, l7, l8, l9, l10, l11, l12, l13, l14, l15, l16, l17, l18, l19, l20, l21, l22, l23, l24, l25] (.int 1 :: S) (H) Q) : W0 rm 79 [l0, l1, l2, l3, l4, l5, l6, l7, l8, l9, l10, l11, l12, l13, l14, l15, l16, l17, l18, l19, l20, l21, l22, l23, l24, l25] (S) H Q := W.iconst' at_79 (by decide) h
theorem s0_80 {rm : Room} {S : List Value} {H : AHeap} {Q : Option Value → AHeap → Prop} {l0 l1 l2 l3 l4 l5 l6 l7 l8 l9 l10 l11 l12 l13 l14 l15 l16 l17 l18 l19 l20 l21 l22 l23 l24 l25 : Slot} {i : Nat} {j : Int32} {x : Int32} {vs : List Value} (N : Nat) (hH : H[i]? = some (.inr (.int, vs))) (hj : ix j N) (hl : Nat.blt N vs.length = true) (h : W0 rm 81 [l0, l1, l2, l3, l4, l5, l6, l7, l8, l9, l10, l11, l12, l13, l14, l15, l16, l17, l18, l19, l20, l21, l22, l23, l24, l25] (S) (H.set i (.inr (.int, vs.set N (.int x)))) Q) : W0 rm 80 [l0, l1, l2, l3, l4, l5, l6, l7, l8, l9, l10, l11, l12, l13, l14, l15, l16, l17, l18, l19, l20, l21, l22, l23, l24, l25] (.int x :: .int j :: .ref i :: S) H Q := W.iastore at_80 hH hj hl h
theorem s0_81 {rm : Room} {S : List Value} {H : AHeap} {Q : Option Value → AHeap → Prop} {l0 l1 l2 l3 l4 l5 l6 l7 l8 l9 l10 l11 l12 l13 l14 l15 l16 l17 l18 l19 l20 l21 l22 l23 l24 l25 : Slot} {i : Nat} (ho : one l12 = true) (h : W0 rm 83 [l0, l1, l2, l3, l4, l5, l6, l7, l8, l9, l10, l11, .val (.ref i), l13, l14, l15, l16, l17, l18, l19, l20, l21, l22, l23, l24, l25] (S) (H) Q) : W0 rm 81 [l0, l1, l2, l3, l4, l5, l6, l7, l8, l9, l10, l11, l12, l13, l14, l15, l16, l17, l18, l19, l20, l21, l22, l23, l24, l25] (.ref i :: S) H Q := W.astore at_81 rfl ho rfl h
theorem s0_83 {rm : Room} {S : List Value} {H : AHeap} {Q : Option Value → AHeap → Prop} {l0 l1 l2 l3 l4 l5 l6 l7 l8 l9 l10 l11 l12 l13 l14 l15 l16 l17 l18 l19 l20 l21 l22 l23 l24 l25 : Slot} (i : Nat) (hi : H.length = i) (hr : nok rm 10 = true) (h : W0 ⟨rm.frames, rm.cells - 1, rm.slots - 10, rm.locals⟩ 86 [l0, l1, l2, l3, l4, l5, l6, l7, l8, l9, l10, l11, l12, l13, l14, l15, l16, l17, l18, l19, l20, l21, l22, l23, l24, l25] (.ref i :: S) (H ++ [.inl (0, [.null, .null, .null, .null, .long 0, .null, .null, .null, .long 0])]) Q) : W0 rm 83 [l0, l1, l2, l3, l4, l5, l6, l7, l8, l9, l10, l11, l12, l13, l14, l15, l16, l17, l18, l19, l20, l21, l22, l23, l24, l25] (S) H Q := W.new (c := 0) kt at_83 (List.mem_of_getElem? (i := 1) rfl) (List.mem_of_getElem? (i := 3) rfl) rfl hi hr h
theorem s0_86 {rm : Room} {S : List Value} {H : AHeap} {Q : Option Value → AHeap → Prop} {l0 l1 l2 l3 l4 l5 l6 l7 l8 l9 l10 l11 l12 l13 l14 l15 l16 l17 l18 l19 l20 l21 l22 l23 l24 l25 : Slot} {v : Value} (hc : v.category = 1) (h : W0 rm 87 [l0, l1, l2, l3, l4, l5, l6, l7, l8, l9, l10, l11, l12, l13, l14, l15, l16, l17, l18, l19, l20, l21, l22, l23, l24, l25] (v :: v :: S) (H) Q) : W0 rm 86 [l0, l1, l2, l3, l4, l5, l6, l7, l8, l9, l10, l11, l12, l13, l14, l15, l16, l17, l18, l19, l20, l21, l22, l23, l24, l25] (v :: S) H Q := W.dup at_86 hc h
theorem s0_87 {rm : Room} {S : List Value} {H : AHeap} {Q : Option Value → AHeap → Prop} {l0 l1 l2 l3 l4 l5 l6 l7 l8 l9 l10 l12 l13 l14 l15 l16 l17 l18 l19 l20 l21 l22 l23 l24 l25 : Slot} {i : Nat} (h : W0 rm 89 [l0, l1, l2, l3, l4, l5, l6, l7, l8, l9, l10, .val (.ref i), l12, l13, l14, l15, l16, l17, l18, l19, l20, l21, l22, l23, l24, l25] (.ref i :: S) (H) Q) : W0 rm 87 [l0, l1, l2, l3, l4, l5, l6, l7, l8, l9, l10, .val (.ref i), l12, l13, l14, l15, l16, l17, l18, l19, l20, l21, l22, l23, l24, l25] (S) H Q := W.aload at_87 rfl rfl h
theorem s0_87n {rm : Room} {S : List Value} {H : AHeap} {Q : Option Value → AHeap → Prop} {l0 l1 l2 l3 l4 l5 l6 l7 l8 l9 l10 l12 l13 l14 l15 l16 l17 l18 l19 l20 l21 l22 l23 l24 l25 : Slot}  (h : W0 rm 89 [l0, l1, l2, l3, l4, l5, l6, l7, l8, l9, l10, .val .null, l12, l13, l14, l15, l16, l17, l18, l19, l20, l21, l22, l23, l24, l25] (.null :: S) (H) Q) : W0 rm 87 [l0, l1, l2, l3, l4, l5, l6, l7, l8, l9, l10, .val .null, l12, l13, l14, l15, l16, l17, l18, l19, l20, l21, l22, l23, l24, l25] (S) H Q := W.aload at_87 rfl rfl h
theorem s0_89 {rm : Room} {S : List Value} {H : AHeap} {Q : Option Value → AHeap → Prop} {l0 l1 l2 l3 l4 l5 l6 l7 l8 l9 l10 l11 l13 l14 l15 l16 l17 l18 l19 l20 l21 l22 l23 l24 l25 : Slot} {i : Nat} (h : W0 rm 91 [l0, l1, l2, l3, l4, l5, l6, l7, l8, l9, l10, l11, .val (.ref i), l13, l14, l15, l16, l17, l18, l19, l20, l21, l22, l23, l24, l25] (.ref i :: S) (H) Q) : W0 rm 89 [l0, l1, l2, l3, l4, l5, l6, l7, l8, l9, l10, l11, .val (.ref i), l13, l14, l15, l16, l17, l18, l19, l20, l21, l22, l23, l24, l25] (S) H Q := W.aload at_89 rfl rfl h
theorem s0_89n {rm : Room} {S : List Value} {H : AHeap} {Q : Option Value → AHeap → Prop} {l0 l1 l2 l3 l4 l5 l6 l7 l8 l9 l10 l11 l13 l14 l15 l16 l17 l18 l19 l20 l21 l22 l23 l24 l25 : Slot}  (h : W0 rm 91 [l0, l1, l2, l3, l4, l5, l6, l7, l8, l9, l10, l11, .val .null, l13, l14, l15, l16, l17, l18, l19, l20, l21, l22, l23, l24, l25] (.null :: S) (H) Q) : W0 rm 89 [l0, l1, l2, l3, l4, l5, l6, l7, l8, l9, l10, l11, .val .null, l13, l14, l15, l16, l17, l18, l19, l20, l21, l22, l23, l24, l25] (S) H Q := W.aload at_89 rfl rfl h
theorem s0_91 {rm : Room} {S : List Value} {H : AHeap} {Q : Option Value → AHeap → Prop} {l0 l1 l2 l3 l5 l6 l7 l8 l9 l10 l11 l12 l13 l14 l15 l16 l17 l18 l19 l20 l21 l22 l23 l24 l25 : Slot} {x : Int64} (h : W0 rm 93 [l0, l1, l2, l3, .val (.long x), l5, l6, l7, l8, l9, l10, l11, l12, l13, l14, l15, l16, l17, l18, l19, l20, l21, l22, l23, l24, l25] (.long x :: S) (H) Q) : W0 rm 91 [l0, l1, l2, l3, .val (.long x), l5, l6, l7, l8, l9, l10, l11, l12, l13, l14, l15, l16, l17, l18, l19, l20, l21, l22, l23, l24, l25] (S) H Q := W.lload at_91 rfl h
theorem s0_93 {rm : Room} {S : List Value} {H : AHeap} {Q : Option Value → AHeap → Prop} {l0 l1 l2 l3 l4 l5 l6 l7 l8 l9 l10 l11 l12 l13 l14 l15 l16 l17 l18 l19 l20 l21 l22 l23 l24 l25 : Slot} {rm' : Room} {H' : AHeap} {i : Nat} {a0 : Nat} {a1 : Nat} {a2 : Int64}  (hM : M1 rm' [.ref i, .ref a0, .ref a1, .long a2] H (Is none H')) (hr : rok rm rm' 7 S = true) (h : W0 (less rm rm') 96 [l0, l1, l2, l3, l4, l5, l6, l7, l8, l9, l10, l11, l12, l13, l14, l15, l16, l17, l18, l19, l20, l21, l22, l23, l24, l25] (S) H' Q) : W0 rm 93 [l0, l1, l2, l3, l4, l5, l6, l7, l8, l9, l10, l11, l12, l13, l14, l15, l16, l17, l18, l19, l20, l21, l22, l23, l24, l25] (.long a2 :: .ref a1 :: .ref a0 :: .ref i :: S) H Q := W.callI (S := S) (as := [.ref a0, .ref a1, .long a2]) (rm' := rm') at_93 rfl rfl (List.mem_of_getElem? (i := 4) rfl) (List.mem_of_getElem? (i := 5) rfl) (List.mem_of_getElem? (i := 3) rfl) (List.mem_of_getElem? (i := 6) rfl) (by decide) pd1 rfl rfl hM hr (fun _ _ q => by obtain ⟨rfl, rfl⟩ := q; exact h)
theorem s0_93q {rm : Room} {S : List Value} {H : AHeap} {Q : Option Value → AHeap → Prop} {l0 l1 l2 l3 l4 l5 l6 l7 l8 l9 l10 l11 l12 l13 l14 l15 l16 l17 l18 l19 l20 l21 l22 l23 l24 l25 : Slot} {rm' : Room} {Q' : Option Value → AHeap → Prop} {i : Nat} {a0 a1 a2 : Value} (hM : M1 rm' [.ref i, a0, a1, a2] H Q') (hr : rok rm rm' 7 S = true) (h : ∀ v H', Q' v H' → W0 (less rm rm') 96 [l0, l1, l2, l3, l4, l5, l6, l7, l8, l9, l10, l11, l12, l13, l14, l15, l16, l17, l18, l19, l20, l21, l22, l23, l24, l25] (v.toList ++ S) H' Q) : W0 rm 93 [l0, l1, l2, l3, l4, l5, l6, l7, l8, l9, l10, l11, l12, l13, l14, l15, l16, l17, l18, l19, l20, l21, l22, l23, l24, l25] (a2 :: a1 :: a0 :: .ref i :: S) H Q := W.callI (S := S) (as := [a0, a1, a2]) (rm' := rm') at_93 rfl rfl (List.mem_of_getElem? (i := 4) rfl) (List.mem_of_getElem? (i := 5) rfl) (List.mem_of_getElem? (i := 3) rfl) (List.mem_of_getElem? (i := 6) rfl) (by decide) pd1 rfl rfl hM hr h
theorem s0_96 {rm : Room} {S : List Value} {H : AHeap} {Q : Option Value → AHeap → Prop} {l0 l1 l2 l3 l4 l5 l6 l7 l8 l9 l10 l11 l12 l13 l14 l15 l16 l17 l18 l19 l20 l21 l22 l23 l24 l25 : Slot} {i : Nat} (ho : one l13 = true) (h : W0 rm 98 [l0, l1, l2, l3, l4, l5, l6, l7, l8, l9, l10, l11, l12, .val (.ref i), l14, l15, l16, l17, l18, l19, l20, l21, l22, l23, l24, l25] (S) (H) Q) : W0 rm 96 [l0, l1, l2, l3, l4, l5, l6, l7, l8, l9, l10, l11, l12, l13, l14, l15, l16, l17, l18, l19, l20, l21, l22, l23, l24, l25] (.ref i :: S) H Q := W.astore at_96 rfl ho rfl h
theorem s0_98 {rm : Room} {S : List Value} {H : AHeap} {Q : Option Value → AHeap → Prop} {l0 l1 l2 l3 l4 l5 l6 l7 l8 l10 l11 l12 l13 l14 l15 l16 l17 l18 l19 l20 l21 l22 l23 l24 l25 : Slot} {x : Int32} (h : W0 rm 100 [l0, l1, l2, l3, l4, l5, l6, l7, l8, .val (.int x), l10, l11, l12, l13, l14, l15, l16, l17, l18, l19, l20, l21, l22, l23, l24, l25] (.int x :: S) (H) Q) : W0 rm 98 [l0, l1, l2, l3, l4, l5, l6, l7, l8, .val (.int x), l10, l11, l12, l13, l14, l15, l16, l17, l18, l19, l20, l21, l22, l23, l24, l25] (S) H Q := W.iload at_98 rfl h
theorem s0_100 {rm : Room} {S : List Value} {H : AHeap} {Q : Option Value → AHeap → Prop} {l0 l1 l2 l3 l4 l5 l6 l7 l8 l9 l10 l11 l12 l13 l14 l15 l16 l17 l18 l19 l20 l21 l22 l23 l24 l25 : Slot} {x : Int32} (h1 : x = 0 → W0 rm 117 [l0, l1, l2, l3, l4, l5, l6, l7, l8, l9, l10, l11, l12, l13, l14, l15, l16, l17, l18, l19, l20, l21, l22, l23, l24, l25] S H Q) (h2 : ¬ x = 0 → W0 rm 103 [l0, l1, l2, l3, l4, l5, l6, l7, l8, l9, l10, l11, l12, l13, l14, l15, l16, l17, l18, l19, l20, l21, l22, l23, l24, l25] S H Q) : W0 rm 100 [l0, l1, l2, l3, l4, l5, l6, l7, l8, l9, l10, l11, l12, l13, l14, l15, l16, l17, l18, l19, l20, l21, l22, l23, l24, l25] (.int x :: S) H Q := W.ifc at_100 (by decide) (by decide) h1 h2
theorem s0_103 {rm : Room} {S : List Value} {H : AHeap} {Q : Option Value → AHeap → Prop} {l0 l1 l2 l3 l4 l5 l6 l7 l8 l9 l10 l11 l12 l14 l15 l16 l17 l18 l19 l20 l21 l22 l23 l24 l25 : Slot} {i : Nat} (h : W0 rm 105 [l0, l1, l2, l3, l4, l5, l6, l7, l8, l9, l10, l11, l12, .val (.ref i), l14, l15, l16, l17, l18, l19, l20, l21, l22, l23, l24, l25] (.ref i :: S) (H) Q) : W0 rm 103 [l0, l1, l2, l3, l4, l5, l6, l7, l8, l9, l10, l11, l12, .val (.ref i), l14, l15, l16, l17, l18, l19, l20, l21, l22, l23, l24, l25] (S) H Q := W.aload at_103 rfl rfl h
theorem s0_103n {rm : Room} {S : List Value} {H : AHeap} {Q : Option Value → AHeap → Prop} {l0 l1 l2 l3 l4 l5 l6 l7 l8 l9 l10 l11 l12 l14 l15 l16 l17 l18 l19 l20 l21 l22 l23 l24 l25 : Slot}  (h : W0 rm 105 [l0, l1, l2, l3, l4, l5, l6, l7, l8, l9, l10, l11, l12, .val .null, l14, l15, l16, l17, l18, l19, l20, l21, l22, l23, l24, l25] (.null :: S) (H) Q) : W0 rm 103 [l0, l1, l2, l3, l4, l5, l6, l7, l8, l9, l10, l11, l12, .val .null, l14, l15, l16, l17, l18, l19, l20, l21, l22, l23, l24, l25] (S) H Q := W.aload at_103 rfl rfl h
theorem s0_105 {rm : Room} {S : List Value} {H : AHeap} {Q : Option Value → AHeap → Prop} {l0 l1 l3 l4 l5 l6 l7 l8 l9 l10 l11 l12 l13 l14 l15 l16 l17 l18 l19 l20 l21 l22 l23 l24 l25 : Slot} {x : Int32} (h : W0 rm 106 [l0, l1, .val (.int x), l3, l4, l5, l6, l7, l8, l9, l10, l11, l12, l13, l14, l15, l16, l17, l18, l19, l20, l21, l22, l23, l24, l25] (.int x :: S) (H) Q) : W0 rm 105 [l0, l1, .val (.int x), l3, l4, l5, l6, l7, l8, l9, l10, l11, l12, l13, l14, l15, l16, l17, l18, l19, l20, l21, l22, l23, l24, l25] (S) H Q := W.iload_n at_105 rfl h
theorem s0_106 {rm : Room} {S : List Value} {H : AHeap} {Q : Option Value → AHeap → Prop} {l0 l1 l2 l3 l4 l5 l6 l7 l8 l9 l10 l11 l12 l13 l14 l15 l16 l17 l18 l19 l20 l21 l22 l23 l24 l25 : Slot} {rm' : Room} {H' : AHeap} {i : Nat} {vs : List Value} {a0 : Int32}  (hH : H[i]? = some (.inl (0, vs))) (hM : M4 rm' [.ref i, .int a0] H (Is none H')) (hr : rok rm rm' 2 S = true) (h : W0 (less rm rm') 109 [l0, l1, l2, l3, l4, l5, l6, l7, l8, l9, l10, l11, l12, l13, l14, l15, l16, l17, l18, l19, l20, l21, l22, l23, l24, l25] (S) H' Q) : W0 rm 106 [l0, l1, l2, l3, l4, l5, l6, l7, l8, l9, l10, l11, l12, l13, l14, l15, l16, l17, l18, l19, l20, l21, l22, l23, l24, l25] (.int a0 :: .ref i :: S) H Q := W.callV (c := 0) (S := S) (as := [.int a0]) (rm' := rm') at_106 (List.mem_of_getElem? (i := 39) rfl) (List.mem_of_getElem? (i := 40) rfl) (List.mem_of_getElem? (i := 42) rfl) (Or.inl rfl) kt (List.mem_of_getElem? (i := 41) rfl) (List.mem_of_getElem? (i := 3) rfl) (List.mem_of_getElem? (i := 43) rfl) (by decide) rfl pd4 rfl rfl hH hM hr (fun _ _ q => by obtain ⟨rfl, rfl⟩ := q; exact h)
theorem s0_106q {rm : Room} {S : List Value} {H : AHeap} {Q : Option Value → AHeap → Prop} {l0 l1 l2 l3 l4 l5 l6 l7 l8 l9 l10 l11 l12 l13 l14 l15 l16 l17 l18 l19 l20 l21 l22 l23 l24 l25 : Slot} {rm' : Room} {Q' : Option Value → AHeap → Prop} {i : Nat} {vs : List Value} {a0 : Value} (hH : H[i]? = some (.inl (0, vs))) (hM : M4 rm' [.ref i, a0] H Q') (hr : rok rm rm' 2 S = true) (h : ∀ v H', Q' v H' → W0 (less rm rm') 109 [l0, l1, l2, l3, l4, l5, l6, l7, l8, l9, l10, l11, l12, l13, l14, l15, l16, l17, l18, l19, l20, l21, l22, l23, l24, l25] (v.toList ++ S) H' Q) : W0 rm 106 [l0, l1, l2, l3, l4, l5, l6, l7, l8, l9, l10, l11, l12, l13, l14, l15, l16, l17, l18, l19, l20, l21, l22, l23, l24, l25] (a0 :: .ref i :: S) H Q := W.callV (c := 0) (S := S) (as := [a0]) (rm' := rm') at_106 (List.mem_of_getElem? (i := 39) rfl) (List.mem_of_getElem? (i := 40) rfl) (List.mem_of_getElem? (i := 42) rfl) (Or.inl rfl) kt (List.mem_of_getElem? (i := 41) rfl) (List.mem_of_getElem? (i := 3) rfl) (List.mem_of_getElem? (i := 43) rfl) (by decide) rfl pd4 rfl rfl hH hM hr h
theorem s0_109 {rm : Room} {S : List Value} {H : AHeap} {Q : Option Value → AHeap → Prop} {l0 l1 l2 l3 l4 l5 l6 l7 l8 l9 l10 l11 l12 l14 l15 l16 l17 l18 l19 l20 l21 l22 l23 l24 l25 : Slot} {i : Nat} (h : W0 rm 111 [l0, l1, l2, l3, l4, l5, l6, l7, l8, l9, l10, l11, l12, .val (.ref i), l14, l15, l16, l17, l18, l19, l20, l21, l22, l23, l24, l25] (.ref i :: S) (H) Q) : W0 rm 109 [l0, l1, l2, l3, l4, l5, l6, l7, l8, l9, l10, l11, l12, .val (.ref i), l14, l15, l16, l17, l18, l19, l20, l21, l22, l23, l24, l25] (S) H Q := W.aload at_109 rfl rfl h
theorem s0_109n {rm : Room} {S : List Value} {H : AHeap} {Q : Option Value → AHeap → Prop} {l0 l1 l2 l3 l4 l5 l6 l7 l8 l9 l10 l11 l12 l14 l15 l16 l17 l18 l19 l20 l21 l22 l23 l24 l25 : Slot}  (h : W0 rm 111 [l0, l1, l2, l3, l4, l5, l6, l7, l8, l9, l10, l11, l12, .val .null, l14, l15, l16, l17, l18, l19, l20, l21, l22, l23, l24, l25] (.null :: S) (H) Q) : W0 rm 109 [l0, l1, l2, l3, l4, l5, l6, l7, l8, l9, l10, l11, l12, .val .null, l14, l15, l16, l17, l18, l19, l20, l21, l22, l23, l24, l25] (S) H Q := W.aload at_109 rfl rfl h
theorem s0_111 {rm : Room} {S : List Value} {H : AHeap} {Q : Option Value → AHeap → Prop} {l0 l1 l2 l3 l4 l5 l6 l7 l8 l9 l10 l11 l12 l13 l14 l15 l16 l17 l18 l19 l20 l21 l22 l23 l24 l25 : Slot}  (h : W0 rm 112 [l0, l1, l2, l3, l4, l5, l6, l7, l8, l9, l10, l11, l12, l13, l14, l15, l16, l17, l18, l19, l20, l21, l22, l23, l24, l25] (.int 0 :: S) (H) Q) : W0 rm 111 [l0, l1, l2, l3, l4, l5, l6, l7, l8, l9, l10, l11, l12, l13, l14, l15, l16, l17, l18, l19, l20, l21, l22, l23, l24, l25] (S) H Q := W.iconst' at_111 (by decide) h
theorem s0_112 {rm : Room} {S : List Value} {H : AHeap} {Q : Option Value → AHeap → Prop} {l0 l1 l2 l3 l4 l5 l6 l7 l8 l9 l10 l11 l12 l13 l14 l15 l16 l17 l18 l19 l20 l21 l22 l23 l24 l25 : Slot}  (h : W0 rm 113 [l0, l1, l2, l3, l4, l5, l6, l7, l8, l9, l10, l11, l12, l13, l14, l15, l16, l17, l18, l19, l20, l21, l22, l23, l24, l25] (.int 0 :: S) (H) Q) : W0 rm 112 [l0, l1, l2, l3, l4, l5, l6, l7, l8, l9, l10, l11, l12, l13, l14, l15, l16, l17, l18, l19, l20, l21, l22, l23, l24, l25] (S) H Q := W.iconst' at_112 (by decide) h
theorem s0_113 {rm : Room} {S : List Value} {H : AHeap} {Q : Option Value → AHeap → Prop} {l0 l1 l2 l3 l4 l5 l6 l7 l8 l9 l10 l11 l12 l13 l14 l15 l16 l17 l18 l19 l20 l21 l22 l23 l24 l25 : Slot}  (h : W0 rm 114 [l0, l1, l2, l3, l4, l5, l6, l7, l8, l9, l10, l11, l12, l13, l14, l15, l16, l17, l18, l19, l20, l21, l22, l23, l24, l25] (.int (-1) :: S) (H) Q) : W0 rm 113 [l0, l1, l2, l3, l4, l5, l6, l7, l8, l9, l10, l11, l12, l13, l14, l15, l16, l17, l18, l19, l20, l21, l22, l23, l24, l25] (S) H Q := W.iconst' at_113 (by decide) h
theorem s0_114 {rm : Room} {S : List Value} {H : AHeap} {Q : Option Value → AHeap → Prop} {l0 l1 l2 l3 l4 l5 l6 l7 l8 l9 l10 l11 l12 l13 l14 l15 l16 l17 l18 l19 l20 l21 l22 l23 l24 l25 : Slot} {rm' : Room} {H' : AHeap} {i : Nat} {vs : List Value} {a0 : Int32} {a1 : Int32} {a2 : Int32}  (hH : H[i]? = some (.inl (0, vs))) (hM : M5 rm' [.ref i, .int a0, .int a1, .int a2] H (Is none H')) (hr : rok rm rm' 5 S = true) (h : W0 (less rm rm') 117 [l0, l1, l2, l3, l4, l5, l6, l7, l8, l9, l10, l11, l12, l13, l14, l15, l16, l17, l18, l19, l20, l21, l22, l23, l24, l25] (S) H' Q) : W0 rm 114 [l0, l1, l2, l3, l4, l5, l6, l7, l8, l9, l10, l11, l12, l13, l14, l15, l16, l17, l18, l19, l20, l21, l22, l23, l24, l25] (.int a2 :: .int a1 :: .int a0 :: .ref i :: S) H Q := W.callV (c := 0) (S := S) (as := [.int a0, .int a1, .int a2]) (rm' := rm') at_114 (List.mem_of_getElem? (i := 46) rfl) (List.mem_of_getElem? (i := 47) rfl) (List.mem_of_getElem? (i := 49) rfl) (Or.inl rfl) kt (List.mem_of_getElem? (i := 48) rfl) (List.mem_of_getElem? (i := 3) rfl) (List.mem_of_getElem? (i := 50) rfl) (by decide) rfl pd5 rfl rfl hH hM hr (fun _ _ q => by obtain ⟨rfl, rfl⟩ := q; exact h)
theorem s0_114q {rm : Room} {S : List Value} {H : AHeap} {Q : Option Value → AHeap → Prop} {l0 l1 l2 l3 l4 l5 l6 l7 l8 l9 l10 l11 l12 l13 l14 l15 l16 l17 l18 l19 l20 l21 l22 l23 l24 l25 : Slot} {rm' : Room} {Q' : Option Value → AHeap → Prop} {i : Nat} {vs : List Value} {a0 a1 a2 : Value} (hH : H[i]? = some (.inl (0, vs))) (hM : M5 rm' [.ref i, a0, a1, a2] H Q') (hr : rok rm rm' 5 S = true) (h : ∀ v H', Q' v H' → W0 (less rm rm') 117 [l0, l1, l2, l3, l4, l5, l6, l7, l8, l9, l10, l11, l12, l13, l14, l15, l16, l17, l18, l19, l20, l21, l22, l23, l24, l25] (v.toList ++ S) H' Q) : W0 rm 114 [l0, l1, l2, l3, l4, l5, l6, l7, l8, l9, l10, l11, l12, l13, l14, l15, l16, l17, l18, l19, l20, l21, l22, l23, l24, l25] (a2 :: a1 :: a0 :: .ref i :: S) H Q := W.callV (c := 0) (S := S) (as := [a0, a1, a2]) (rm' := rm') at_114 (List.mem_of_getElem? (i := 46) rfl) (List.mem_of_getElem? (i := 47) rfl) (List.mem_of_getElem? (i := 49) rfl) (Or.inl rfl) kt (List.mem_of_getElem? (i := 48) rfl) (List.mem_of_getElem? (i := 3) rfl) (List.mem_of_getElem? (i := 50) rfl) (by decide) rfl pd5 rfl rfl hH hM hr h
theorem s0_117 {rm : Room} {S : List Value} {H : AHeap} {Q : Option Value → AHeap → Prop} {l0 l1 l2 l3 l4 l5 l6 l8 l9 l10 l11 l12 l13 l14 l15 l16 l17 l18 l19 l20 l21 l22 l23 l24 l25 : Slot} {x : Int32} (h : W0 rm 119 [l0, l1, l2, l3, l4, l5, l6, .val (.int x), l8, l9, l10, l11, l12, l13, l14, l15, l16, l17, l18, l19, l20, l21, l22, l23, l24, l25] (.int x :: S) (H) Q) : W0 rm 117 [l0, l1, l2, l3, l4, l5, l6, .val (.int x), l8, l9, l10, l11, l12, l13, l14, l15, l16, l17, l18, l19, l20, l21, l22, l23, l24, l25] (S) H Q := W.iload at_117 rfl h
theorem s0_119 {rm : Room} {S : List Value} {H : AHeap} {Q : Option Value → AHeap → Prop} {l0 l1 l2 l3 l4 l5 l6 l7 l8 l9 l10 l11 l12 l13 l14 l15 l16 l17 l18 l19 l20 l21 l22 l23 l24 l25 : Slot} {x : Int32} (h1 : x = 0 → W0 rm 136 [l0, l1, l2, l3, l4, l5, l6, l7, l8, l9, l10, l11, l12, l13, l14, l15, l16, l17, l18, l19, l20, l21, l22, l23, l24, l25] S H Q) (h2 : ¬ x = 0 → W0 rm 122 [l0, l1, l2, l3, l4, l5, l6, l7, l8, l9, l10, l11, l12, l13, l14, l15, l16, l17, l18, l19, l20, l21, l22, l23, l24, l25] S H Q) : W0 rm 119 [l0, l1, l2, l3, l4, l5, l6, l7, l8, l9, l10, l11, l12, l13, l14, l15, l16, l17, l18, l19, l20, l21, l22, l23, l24, l25] (.int x :: S) H Q := W.ifc at_119 (by decide) (by decide) h1 h2
theorem s0_122 {rm : Room} {S : List Value} {H : AHeap} {Q : Option Value → AHeap → Prop} {l0 l1 l2 l3 l4 l5 l6 l7 l8 l9 l10 l11 l12 l14 l15 l16 l17 l18 l19 l20 l21 l22 l23 l24 l25 : Slot} {i : Nat} (h : W0 rm 124 [l0, l1, l2, l3, l4, l5, l6, l7, l8, l9, l10, l11, l12, .val (.ref i), l14, l15, l16, l17, l18, l19, l20, l21, l22, l23, l24, l25] (.ref i :: S) (H) Q) : W0 rm 122 [l0, l1, l2, l3, l4, l5, l6, l7, l8, l9, l10, l11, l12, .val (.ref i), l14, l15, l16, l17, l18, l19, l20, l21, l22, l23, l24, l25] (S) H Q := W.aload at_122 rfl rfl h
theorem s0_122n {rm : Room} {S : List Value} {H : AHeap} {Q : Option Value → AHeap → Prop} {l0 l1 l2 l3 l4 l5 l6 l7 l8 l9 l10 l11 l12 l14 l15 l16 l17 l18 l19 l20 l21 l22 l23 l24 l25 : Slot}  (h : W0 rm 124 [l0, l1, l2, l3, l4, l5, l6, l7, l8, l9, l10, l11, l12, .val .null, l14, l15, l16, l17, l18, l19, l20, l21, l22, l23, l24, l25] (.null :: S) (H) Q) : W0 rm 122 [l0, l1, l2, l3, l4, l5, l6, l7, l8, l9, l10, l11, l12, .val .null, l14, l15, l16, l17, l18, l19, l20, l21, l22, l23, l24, l25] (S) H Q := W.aload at_122 rfl rfl h
theorem s0_124 {rm : Room} {S : List Value} {H : AHeap} {Q : Option Value → AHeap → Prop} {l1 l2 l3 l4 l5 l6 l7 l8 l9 l10 l11 l12 l13 l14 l15 l16 l17 l18 l19 l20 l21 l22 l23 l24 l25 : Slot} {x : Int32} (h : W0 rm 125 [.val (.int x), l1, l2, l3, l4, l5, l6, l7, l8, l9, l10, l11, l12, l13, l14, l15, l16, l17, l18, l19, l20, l21, l22, l23, l24, l25] (.int x :: S) (H) Q) : W0 rm 124 [.val (.int x), l1, l2, l3, l4, l5, l6, l7, l8, l9, l10, l11, l12, l13, l14, l15, l16, l17, l18, l19, l20, l21, l22, l23, l24, l25] (S) H Q := W.iload_n at_124 rfl h
theorem s0_125 {rm : Room} {S : List Value} {H : AHeap} {Q : Option Value → AHeap → Prop} {l0 l1 l2 l3 l4 l5 l6 l7 l8 l9 l10 l11 l12 l13 l14 l15 l16 l17 l18 l19 l20 l21 l22 l23 l24 l25 : Slot} {rm' : Room} {H' : AHeap} {i : Nat} {vs : List Value} {a0 : Int32}  (hH : H[i]? = some (.inl (0, vs))) (hM : M4 rm' [.ref i, .int a0] H (Is none H')) (hr : rok rm rm' 2 S = true) (h : W0 (less rm rm') 128 [l0, l1, l2, l3, l4, l5, l6, l7, l8, l9, l10, l11, l12, l13, l14, l15, l16, l17, l18, l19, l20, l21, l22, l23, l24, l25] (S) H' Q) : W0 rm 125 [l0, l1, l2, l3, l4, l5, l6, l7, l8, l9, l10, l11, l12, l13, l14, l15, l16, l17, l18, l19, l20, l21, l22, l23, l24, l25] (.int a0 :: .ref i :: S) H Q := W.callV (c := 0) (S := S) (as := [.int a0]) (rm' := rm') at_125 (List.mem_of_getElem? (i := 39) rfl) (List.mem_of_getElem? (i := 40) rfl) (List.mem_of_getElem? (i := 42) rfl) (Or.inl rfl) kt (List.mem_of_getElem? (i := 41) rfl) (List.mem_of_getElem? (i := 3) rfl) (List.mem_of_getElem? (i := 43) rfl) (by decide) rfl pd4 rfl rfl hH hM hr (fun _ _ q => by obtain ⟨rfl, rfl⟩ := q; exact h)
theorem s0_125q {rm : Room} {S : List Value} {H : AHeap} {Q : Option Value → AHeap → Prop} {l0 l1 l2 l3 l4 l5 l6 l7 l8 l9 l10 l11 l12 l13 l14 l15 l16 l17 l18 l19 l20 l21 l22 l23 l24 l25 : Slot} {rm' : Room} {Q' : Option Value → AHeap → Prop} {i : Nat} {vs : List Value} {a0 : Value} (hH : H[i]? = some (.inl (0, vs))) (hM : M4 rm' [.ref i, a0] H Q') (hr : rok rm rm' 2 S = true) (h : ∀ v H', Q' v H' → W0 (less rm rm') 128 [l0, l1, l2, l3, l4, l5, l6, l7, l8, l9, l10, l11, l12, l13, l14, l15, l16, l17, l18, l19, l20, l21, l22, l23, l24, l25] (v.toList ++ S) H' Q) : W0 rm 125 [l0, l1, l2, l3, l4, l5, l6, l7, l8, l9, l10, l11, l12, l13, l14, l15, l16, l17, l18, l19, l20, l21, l22, l23, l24, l25] (a0 :: .ref i :: S) H Q := W.callV (c := 0) (S := S) (as := [a0]) (rm' := rm') at_125 (List.mem_of_getElem? (i := 39) rfl) (List.mem_of_getElem? (i := 40) rfl) (List.mem_of_getElem? (i := 42) rfl) (Or.inl rfl) kt (List.mem_of_getElem? (i := 41) rfl) (List.mem_of_getElem? (i := 3) rfl) (List.mem_of_getElem? (i := 43) rfl) (by decide) rfl pd4 rfl rfl hH hM hr h
theorem s0_128 {rm : Room} {S : List Value} {H : AHeap} {Q : Option Value → AHeap → Prop} {l0 l1 l2 l3 l4 l5 l6 l7 l8 l9 l10 l11 l12 l14 l15 l16 l17 l18 l19 l20 l21 l22 l23 l24 l25 : Slot} {i : Nat} (h : W0 rm 130 [l0, l1, l2, l3, l4, l5, l6, l7, l8, l9, l10, l11, l12, .val (.ref i), l14, l15, l16, l17, l18, l19, l20, l21, l22, l23, l24, l25] (.ref i :: S) (H) Q) : W0 rm 128 [l0, l1, l2, l3, l4, l5, l6, l7, l8, l9, l10, l11, l12, .val (.ref i), l14, l15, l16, l17, l18, l19, l20, l21, l22, l23, l24, l25] (S) H Q := W.aload at_128 rfl rfl h
theorem s0_128n {rm : Room} {S : List Value} {H : AHeap} {Q : Option Value → AHeap → Prop} {l0 l1 l2 l3 l4 l5 l6 l7 l8 l9 l10 l11 l12 l14 l15 l16 l17 l18 l19 l20 l21 l22 l23 l24 l25 : Slot}  (h : W0 rm 130 [l0, l1, l2, l3, l4, l5, l6, l7, l8, l9, l10, l11, l12, .val .null, l14, l15, l16, l17, l18, l19, l20, l21, l22, l23, l24, l25] (.null :: S) (H) Q) : W0 rm 128 [l0, l1, l2, l3, l4, l5, l6, l7, l8, l9, l10, l11, l12, .val .null, l14, l15, l16, l17, l18, l19, l20, l21, l22, l23, l24, l25] (S) H Q := W.aload at_128 rfl rfl h
theorem s0_130 {rm : Room} {S : List Value} {H : AHeap} {Q : Option Value → AHeap → Prop} {l0 l1 l2 l3 l4 l5 l6 l7 l8 l9 l10 l11 l12 l13 l14 l15 l16 l17 l18 l19 l20 l21 l22 l23 l24 l25 : Slot}  (h : W0 rm 131 [l0, l1, l2, l3, l4, l5, l6, l7, l8, l9, l10, l11, l12, l13, l14, l15, l16, l17, l18, l19, l20, l21, l22, l23, l24, l25] (.int 1 :: S) (H) Q) : W0 rm 130 [l0, l1, l2, l3, l4, l5, l6, l7, l8, l9, l10, l11, l12, l13, l14, l15, l16, l17, l18, l19, l20, l21, l22, l23, l24, l25] (S) H Q := W.iconst' at_130 (by decide) h
theorem s0_131 {rm : Room} {S : List Value} {H : AHeap} {Q : Option Value → AHeap → Prop} {l0 l1 l2 l3 l4 l5 l6 l7 l8 l9 l10 l11 l12 l13 l14 l15 l16 l17 l18 l19 l20 l21 l22 l23 l24 l25 : Slot}  (h : W0 rm 132 [l0, l1, l2, l3, l4, l5, l6, l7, l8, l9, l10, l11, l12, l13, l14, l15, l16, l17, l18, l19, l20, l21, l22, l23, l24, l25] (.int 0 :: S) (H) Q) : W0 rm 131 [l0, l1, l2, l3, l4, l5, l6, l7, l8, l9, l10, l11, l12, l13, l14, l15, l16, l17, l18, l19, l20, l21, l22, l23, l24, l25] (S) H Q := W.iconst' at_131 (by decide) h
theorem s0_132 {rm : Room} {S : List Value} {H : AHeap} {Q : Option Value → AHeap → Prop} {l0 l1 l2 l3 l4 l5 l6 l7 l8 l9 l10 l11 l12 l13 l14 l15 l16 l17 l18 l19 l20 l21 l22 l23 l24 l25 : Slot}  (h : W0 rm 133 [l0, l1, l2, l3, l4, l5, l6, l7, l8, l9, l10, l11, l12, l13, l14, l15, l16, l17, l18, l19, l20, l21, l22, l23, l24, l25] (.int (-1) :: S) (H) Q) : W0 rm 132 [l0, l1, l2, l3, l4, l5, l6, l7, l8, l9, l10, l11, l12, l13, l14, l15, l16, l17, l18, l19, l20, l21, l22, l23, l24, l25] (S) H Q := W.iconst' at_132 (by decide) h
theorem s0_133 {rm : Room} {S : List Value} {H : AHeap} {Q : Option Value → AHeap → Prop} {l0 l1 l2 l3 l4 l5 l6 l7 l8 l9 l10 l11 l12 l13 l14 l15 l16 l17 l18 l19 l20 l21 l22 l23 l24 l25 : Slot} {rm' : Room} {H' : AHeap} {i : Nat} {vs : List Value} {a0 : Int32} {a1 : Int32} {a2 : Int32}  (hH : H[i]? = some (.inl (0, vs))) (hM : M5 rm' [.ref i, .int a0, .int a1, .int a2] H (Is none H')) (hr : rok rm rm' 5 S = true) (h : W0 (less rm rm') 136 [l0, l1, l2, l3, l4, l5, l6, l7, l8, l9, l10, l11, l12, l13, l14, l15, l16, l17, l18, l19, l20, l21, l22, l23, l24, l25] (S) H' Q) : W0 rm 133 [l0, l1, l2, l3, l4, l5, l6, l7, l8, l9, l10, l11, l12, l13, l14, l15, l16, l17, l18, l19, l20, l21, l22, l23, l24, l25] (.int a2 :: .int a1 :: .int a0 :: .ref i :: S) H Q := W.callV (c := 0) (S := S) (as := [.int a0, .int a1, .int a2]) (rm' := rm') at_133 (List.mem_of_getElem? (i := 46) rfl) (List.mem_of_getElem? (i := 47) rfl) (List.mem_of_getElem? (i := 49) rfl) (Or.inl rfl) kt (List.mem_of_getElem? (i := 48) rfl) (List.mem_of_getElem? (i := 3) rfl) (List.mem_of_getElem? (i := 50) rfl) (by decide) rfl pd5 rfl rfl hH hM hr (fun _ _ q => by obtain ⟨rfl, rfl⟩ := q; exact h)
theorem s0_133q {rm : Room} {S : List Value} {H : AHeap} {Q : Option Value → AHeap → Prop} {l0 l1 l2 l3 l4 l5 l6 l7 l8 l9 l10 l11 l12 l13 l14 l15 l16 l17 l18 l19 l20 l21 l22 l23 l24 l25 : Slot} {rm' : Room} {Q' : Option Value → AHeap → Prop} {i : Nat} {vs : List Value} {a0 a1 a2 : Value} (hH : H[i]? = some (.inl (0, vs))) (hM : M5 rm' [.ref i, a0, a1, a2] H Q') (hr : rok rm rm' 5 S = true) (h : ∀ v H', Q' v H' → W0 (less rm rm') 136 [l0, l1, l2, l3, l4, l5, l6, l7, l8, l9, l10, l11, l12, l13, l14, l15, l16, l17, l18, l19, l20, l21, l22, l23, l24, l25] (v.toList ++ S) H' Q) : W0 rm 133 [l0, l1, l2, l3, l4, l5, l6, l7, l8, l9, l10, l11, l12, l13, l14, l15, l16, l17, l18, l19, l20, l21, l22, l23, l24, l25] (a2 :: a1 :: a0 :: .ref i :: S) H Q := W.callV (c := 0) (S := S) (as := [a0, a1, a2]) (rm' := rm') at_133 (List.mem_of_getElem? (i := 46) rfl) (List.mem_of_getElem? (i := 47) rfl) (List.mem_of_getElem? (i := 49) rfl) (Or.inl rfl) kt (List.mem_of_getElem? (i := 48) rfl) (List.mem_of_getElem? (i := 3) rfl) (List.mem_of_getElem? (i := 50) rfl) (by decide) rfl pd5 rfl rfl hH hM hr h
theorem s0_136 {rm : Room} {S : List Value} {H : AHeap} {Q : Option Value → AHeap → Prop} {l0 l1 l2 l3 l4 l5 l6 l7 l9 l10 l11 l12 l13 l14 l15 l16 l17 l18 l19 l20 l21 l22 l23 l24 l25 : Slot} {x : Int32} (h : W0 rm 138 [l0, l1, l2, l3, l4, l5, l6, l7, .val (.int x), l9, l10, l11, l12, l13, l14, l15, l16, l17, l18, l19, l20, l21, l22, l23, l24, l25] (.int x :: S) (H) Q) : W0 rm 136 [l0, l1, l2, l3, l4, l5, l6, l7, .val (.int x), l9, l10, l11, l12, l13, l14, l15, l16, l17, l18, l19, l20, l21, l22, l23, l24, l25] (S) H Q := W.iload at_136 rfl h
theorem s0_138 {rm : Room} {S : List Value} {H : AHeap} {Q : Option Value → AHeap → Prop} {l0 l1 l2 l3 l4 l5 l6 l7 l8 l9 l10 l11 l12 l13 l14 l15 l16 l17 l18 l19 l20 l21 l22 l23 l24 l25 : Slot} {x : Int32} (h1 : x = 0 → W0 rm 155 [l0, l1, l2, l3, l4, l5, l6, l7, l8, l9, l10, l11, l12, l13, l14, l15, l16, l17, l18, l19, l20, l21, l22, l23, l24, l25] S H Q) (h2 : ¬ x = 0 → W0 rm 141 [l0, l1, l2, l3, l4, l5, l6, l7, l8, l9, l10, l11, l12, l13, l14, l15, l16, l17, l18, l19, l20, l21, l22, l23, l24, l25] S H Q) : W0 rm 138 [l0, l1, l2, l3, l4, l5, l6, l7, l8, l9, l10, l11, l12, l13, l14, l15, l16, l17, l18, l19, l20, l21, l22, l23, l24, l25] (.int x :: S) H Q := W.ifc at_138 (by decide) (by decide) h1 h2
theorem s0_141 {rm : Room} {S : List Value} {H : AHeap} {Q : Option Value → AHeap → Prop} {l0 l1 l2 l3 l4 l5 l6 l7 l8 l9 l10 l11 l12 l14 l15 l16 l17 l18 l19 l20 l21 l22 l23 l24 l25 : Slot} {i : Nat} (h : W0 rm 143 [l0, l1, l2, l3, l4, l5, l6, l7, l8, l9, l10, l11, l12, .val (.ref i), l14, l15, l16, l17, l18, l19, l20, l21, l22, l23, l24, l25] (.ref i :: S) (H) Q) : W0 rm 141 [l0, l1, l2, l3, l4, l5, l6, l7, l8, l9, l10, l11, l12, .val (.ref i), l14, l15, l16, l17, l18, l19, l20, l21, l22, l23, l24, l25] (S) H Q := W.aload at_141 rfl rfl h
theorem s0_141n {rm : Room} {S : List Value} {H : AHeap} {Q : Option Value → AHeap → Prop} {l0 l1 l2 l3 l4 l5 l6 l7 l8 l9 l10 l11 l12 l14 l15 l16 l17 l18 l19 l20 l21 l22 l23 l24 l25 : Slot}  (h : W0 rm 143 [l0, l1, l2, l3, l4, l5, l6, l7, l8, l9, l10, l11, l12, .val .null, l14, l15, l16, l17, l18, l19, l20, l21, l22, l23, l24, l25] (.null :: S) (H) Q) : W0 rm 141 [l0, l1, l2, l3, l4, l5, l6, l7, l8, l9, l10, l11, l12, .val .null, l14, l15, l16, l17, l18, l19, l20, l21, l22, l23, l24, l25] (S) H Q := W.aload at_141 rfl rfl h
theorem s0_143 {rm : Room} {S : List Value} {H : AHeap} {Q : Option Value → AHeap → Prop} {l0 l2 l3 l4 l5 l6 l7 l8 l9 l10 l11 l12 l13 l14 l15 l16 l17 l18 l19 l20 l21 l22 l23 l24 l25 : Slot} {x : Int32} (h : W0 rm 144 [l0, .val (.int x), l2, l3, l4, l5, l6, l7, l8, l9, l10, l11, l12, l13, l14, l15, l16, l17, l18, l19, l20, l21, l22, l23, l24, l25] (.int x :: S) (H) Q) : W0 rm 143 [l0, .val (.int x), l2, l3, l4, l5, l6, l7, l8, l9, l10, l11, l12, l13, l14, l15, l16, l17, l18, l19, l20, l21, l22, l23, l24, l25] (S) H Q := W.iload_n at_143 rfl h
theorem s0_144 {rm : Room} {S : List Value} {H : AHeap} {Q : Option Value → AHeap → Prop} {l0 l1 l2 l3 l4 l5 l6 l7 l8 l9 l10 l11 l12 l13 l14 l15 l16 l17 l18 l19 l20 l21 l22 l23 l24 l25 : Slot} {rm' : Room} {H' : AHeap} {i : Nat} {vs : List Value} {a0 : Int32}  (hH : H[i]? = some (.inl (0, vs))) (hM : M4 rm' [.ref i, .int a0] H (Is none H')) (hr : rok rm rm' 2 S = true) (h : W0 (less rm rm') 147 [l0, l1, l2, l3, l4, l5, l6, l7, l8, l9, l10, l11, l12, l13, l14, l15, l16, l17, l18, l19, l20, l21, l22, l23, l24, l25] (S) H' Q) : W0 rm 144 [l0, l1, l2, l3, l4, l5, l6, l7, l8, l9, l10, l11, l12, l13, l14, l15, l16, l17, l18, l19, l20, l21, l22, l23, l24, l25] (.int a0 :: .ref i :: S) H Q := W.callV (c := 0) (S := S) (as := [.int a0]) (rm' := rm') at_144 (List.mem_of_getElem? (i := 39) rfl) (List.mem_of_getElem? (i := 40) rfl) (List.mem_of_getElem? (i := 42) rfl) (Or.inl rfl) kt (List.mem_of_getElem? (i := 41) rfl) (List.mem_of_getElem? (i := 3) rfl) (List.mem_of_getElem? (i := 43) rfl) (by decide) rfl pd4 rfl rfl hH hM hr (fun _ _ q => by obtain ⟨rfl, rfl⟩ := q; exact h)
theorem s0_144q {rm : Room} {S : List Value} {H : AHeap} {Q : Option Value → AHeap → Prop} {l0 l1 l2 l3 l4 l5 l6 l7 l8 l9 l10 l11 l12 l13 l14 l15 l16 l17 l18 l19 l20 l21 l22 l23 l24 l25 : Slot} {rm' : Room} {Q' : Option Value → AHeap → Prop} {i : Nat} {vs : List Value} {a0 : Value} (hH : H[i]? = some (.inl (0, vs))) (hM : M4 rm' [.ref i, a0] H Q') (hr : rok rm rm' 2 S = true) (h : ∀ v H', Q' v H' → W0 (less rm rm') 147 [l0, l1, l2, l3, l4, l5, l6, l7, l8, l9, l10, l11, l12, l13, l14, l15, l16, l17, l18, l19, l20, l21, l22, l23, l24, l25] (v.toList ++ S) H' Q) : W0 rm 144 [l0, l1, l2, l3, l4, l5, l6, l7, l8, l9, l10, l11, l12, l13, l14, l15, l16, l17, l18, l19, l20, l21, l22, l23, l24, l25] (a0 :: .ref i :: S) H Q := W.callV (c := 0) (S := S) (as := [a0]) (rm' := rm') at_144 (List.mem_of_getElem? (i := 39) rfl) (List.mem_of_getElem? (i := 40) rfl) (List.mem_of_getElem? (i := 42) rfl) (Or.inl rfl) kt (List.mem_of_getElem? (i := 41) rfl) (List.mem_of_getElem? (i := 3) rfl) (List.mem_of_getElem? (i := 43) rfl) (by decide) rfl pd4 rfl rfl hH hM hr h
theorem s0_147 {rm : Room} {S : List Value} {H : AHeap} {Q : Option Value → AHeap → Prop} {l0 l1 l2 l3 l4 l5 l6 l7 l8 l9 l10 l11 l12 l14 l15 l16 l17 l18 l19 l20 l21 l22 l23 l24 l25 : Slot} {i : Nat} (h : W0 rm 149 [l0, l1, l2, l3, l4, l5, l6, l7, l8, l9, l10, l11, l12, .val (.ref i), l14, l15, l16, l17, l18, l19, l20, l21, l22, l23, l24, l25] (.ref i :: S) (H) Q) : W0 rm 147 [l0, l1, l2, l3, l4, l5, l6, l7, l8, l9, l10, l11, l12, .val (.ref i), l14, l15, l16, l17, l18, l19, l20, l21, l22, l23, l24, l25] (S) H Q := W.aload at_147 rfl rfl h
theorem s0_147n {rm : Room} {S : List Value} {H : AHeap} {Q : Option Value → AHeap → Prop} {l0 l1 l2 l3 l4 l5 l6 l7 l8 l9 l10 l11 l12 l14 l15 l16 l17 l18 l19 l20 l21 l22 l23 l24 l25 : Slot}  (h : W0 rm 149 [l0, l1, l2, l3, l4, l5, l6, l7, l8, l9, l10, l11, l12, .val .null, l14, l15, l16, l17, l18, l19, l20, l21, l22, l23, l24, l25] (.null :: S) (H) Q) : W0 rm 147 [l0, l1, l2, l3, l4, l5, l6, l7, l8, l9, l10, l11, l12, .val .null, l14, l15, l16, l17, l18, l19, l20, l21, l22, l23, l24, l25] (S) H Q := W.aload at_147 rfl rfl h
theorem s0_149 {rm : Room} {S : List Value} {H : AHeap} {Q : Option Value → AHeap → Prop} {l0 l1 l2 l3 l4 l5 l6 l7 l8 l9 l10 l11 l12 l13 l14 l15 l16 l17 l18 l19 l20 l21 l22 l23 l24 l25 : Slot}  (h : W0 rm 150 [l0, l1, l2, l3, l4, l5, l6, l7, l8, l9, l10, l11, l12, l13, l14, l15, l16, l17, l18, l19, l20, l21, l22, l23, l24, l25] (.int 1 :: S) (H) Q) : W0 rm 149 [l0, l1, l2, l3, l4, l5, l6, l7, l8, l9, l10, l11, l12, l13, l14, l15, l16, l17, l18, l19, l20, l21, l22, l23, l24, l25] (S) H Q := W.iconst' at_149 (by decide) h
theorem s0_150 {rm : Room} {S : List Value} {H : AHeap} {Q : Option Value → AHeap → Prop} {l0 l1 l2 l3 l4 l5 l6 l7 l8 l9 l10 l11 l12 l13 l14 l15 l16 l17 l18 l19 l20 l21 l22 l23 l24 l25 : Slot}  (h : W0 rm 151 [l0, l1, l2, l3, l4, l5, l6, l7, l8, l9, l10, l11, l12, l13, l14, l15, l16, l17, l18, l19, l20, l21, l22, l23, l24, l25] (.int 1 :: S) (H) Q) : W0 rm 150 [l0, l1, l2, l3, l4, l5, l6, l7, l8, l9, l10, l11, l12, l13, l14, l15, l16, l17, l18, l19, l20, l21, l22, l23, l24, l25] (S) H Q := W.iconst' at_150 (by decide) h
theorem s0_151 {rm : Room} {S : List Value} {H : AHeap} {Q : Option Value → AHeap → Prop} {l0 l1 l2 l3 l4 l5 l6 l7 l8 l9 l10 l11 l12 l13 l14 l15 l16 l17 l18 l19 l20 l21 l22 l23 l24 l25 : Slot}  (h : W0 rm 152 [l0, l1, l2, l3, l4, l5, l6, l7, l8, l9, l10, l11, l12, l13, l14, l15, l16, l17, l18, l19, l20, l21, l22, l23, l24, l25] (.int (-1) :: S) (H) Q) : W0 rm 151 [l0, l1, l2, l3, l4, l5, l6, l7, l8, l9, l10, l11, l12, l13, l14, l15, l16, l17, l18, l19, l20, l21, l22, l23, l24, l25] (S) H Q := W.iconst' at_151 (by decide) h
theorem s0_152 {rm : Room} {S : List Value} {H : AHeap} {Q : Option Value → AHeap → Prop} {l0 l1 l2 l3 l4 l5 l6 l7 l8 l9 l10 l11 l12 l13 l14 l15 l16 l17 l18 l19 l20 l21 l22 l23 l24 l25 : Slot} {rm' : Room} {H' : AHeap} {i : Nat} {vs : List Value} {a0 : Int32} {a1 : Int32} {a2 : Int32}  (hH : H[i]? = some (.inl (0, vs))) (hM : M5 rm' [.ref i, .int a0, .int a1, .int a2] H (Is none H')) (hr : rok rm rm' 5 S = true) (h : W0 (less rm rm') 155 [l0, l1, l2, l3, l4, l5, l6, l7, l8, l9, l10, l11, l12, l13, l14, l15, l16, l17, l18, l19, l20, l21, l22, l23, l24, l25] (S) H' Q) : W0 rm 152 [l0, l1, l2, l3, l4, l5, l6, l7, l8, l9, l10, l11, l12, l13, l14, l15, l16, l17, l18, l19, l20, l21, l22, l23, l24, l25] (.int a2 :: .int a1 :: .int a0 :: .ref i :: S) H Q := W.callV (c := 0) (S := S) (as := [.int a0, .int a1, .int a2]) (rm' := rm') at_152 (List.mem_of_getElem? (i := 46) rfl) (List.mem_of_getElem? (i := 47) rfl) (List.mem_of_getElem? (i := 49) rfl) (Or.inl rfl) kt (List.mem_of_getElem? (i := 48) rfl) (List.mem_of_getElem? (i := 3) rfl) (List.mem_of_getElem? (i := 50) rfl) (by decide) rfl pd5 rfl rfl hH hM hr (fun _ _ q => by obtain ⟨rfl, rfl⟩ := q; exact h)
theorem s0_152q {rm : Room} {S : List Value} {H : AHeap} {Q : Option Value → AHeap → Prop} {l0 l1 l2 l3 l4 l5 l6 l7 l8 l9 l10 l11 l12 l13 l14 l15 l16 l17 l18 l19 l20 l21 l22 l23 l24 l25 : Slot} {rm' : Room} {Q' : Option Value → AHeap → Prop} {i : Nat} {vs : List Value} {a0 a1 a2 : Value} (hH : H[i]? = some (.inl (0, vs))) (hM : M5 rm' [.ref i, a0, a1, a2] H Q') (hr : rok rm rm' 5 S = true) (h : ∀ v H', Q' v H' → W0 (less rm rm') 155 [l0, l1, l2, l3, l4, l5, l6, l7, l8, l9, l10, l11, l12, l13, l14, l15, l16, l17, l18, l19, l20, l21, l22, l23, l24, l25] (v.toList ++ S) H' Q) : W0 rm 152 [l0, l1, l2, l3, l4, l5, l6, l7, l8, l9, l10, l11, l12, l13, l14, l15, l16, l17, l18, l19, l20, l21, l22, l23, l24, l25] (a2 :: a1 :: a0 :: .ref i :: S) H Q := W.callV (c := 0) (S := S) (as := [a0, a1, a2]) (rm' := rm') at_152 (List.mem_of_getElem? (i := 46) rfl) (List.mem_of_getElem? (i := 47) rfl) (List.mem_of_getElem? (i := 49) rfl) (Or.inl rfl) kt (List.mem_of_getElem? (i := 48) rfl) (List.mem_of_getElem? (i := 3) rfl) (List.mem_of_getElem? (i := 50) rfl) (by decide) rfl pd5 rfl rfl hH hM hr h
theorem s0_155 {rm : Room} {S : List Value} {H : AHeap} {Q : Option Value → AHeap → Prop} {l0 l1 l2 l3 l4 l5 l6 l7 l8 l9 l11 l12 l13 l14 l15 l16 l17 l18 l19 l20 l21 l22 l23 l24 l25 : Slot} {x : Int32} (h : W0 rm 157 [l0, l1, l2, l3, l4, l5, l6, l7, l8, l9, .val (.int x), l11, l12, l13, l14, l15, l16, l17, l18, l19, l20, l21, l22, l23, l24, l25] (.int x :: S) (H) Q) : W0 rm 155 [l0, l1, l2, l3, l4, l5, l6, l7, l8, l9, .val (.int x), l11, l12, l13, l14, l15, l16, l17, l18, l19, l20, l21, l22, l23, l24, l25] (S) H Q := W.iload at_155 rfl h
theorem s0_157 {rm : Room} {S : List Value} {H : AHeap} {Q : Option Value → AHeap → Prop} {l0 l1 l2 l3 l4 l5 l6 l7 l8 l9 l10 l11 l12 l13 l14 l15 l16 l17 l18 l19 l20 l21 l22 l23 l24 l25 : Slot} {x : Int32} (h1 : x = 0 → W0 rm 164 [l0, l1, l2, l3, l4, l5, l6, l7, l8, l9, l10, l11, l12, l13, l14, l15, l16, l17, l18, l19, l20, l21, l22, l23, l24, l25] S H Q) (h2 : ¬ x = 0 → W0 rm 160 [l0, l1, l2, l3, l4, l5, l6, l7, l8, l9, l10, l11, l12, l13, l14, l15, l16, l17, l18, l19, l20, l21, l22, l23, l24, l25] S H Q) : W0 rm 157 [l0, l1, l2, l3, l4, l5, l6, l7, l8, l9, l10, l11, l12, l13, l14, l15, l16, l17, l18, l19, l20, l21, l22, l23, l24, l25] (.int x :: S) H Q := W.ifc at_157 (by decide) (by decide) h1 h2
theorem s0_160 {rm : Room} {S : List Value} {H : AHeap} {Q : Option Value → AHeap → Prop} {l0 l1 l2 l3 l4 l5 l6 l7 l8 l9 l10 l11 l12 l13 l14 l15 l16 l17 l18 l19 l20 l21 l22 l23 l24 l25 : Slot}  (h : W0 rm 161 [l0, l1, l2, l3, l4, l5, l6, l7, l8, l9, l10, l11, l12, l13, l14, l15, l16, l17, l18, l19, l20, l21, l22, l23, l24, l25] (.int 0 :: S) (H) Q) : W0 rm 160 [l0, l1, l2, l3, l4, l5, l6, l7, l8, l9, l10, l11, l12, l13, l14, l15, l16, l17, l18, l19, l20, l21, l22, l23, l24, l25] (S) H Q := W.iconst' at_160 (by decide) h
theorem s0_161 {rm : Room} {S : List Value} {H : AHeap} {Q : Option Value → AHeap → Prop} {l0 l1 l2 l3 l4 l5 l6 l7 l8 l9 l10 l11 l12 l13 l14 l15 l16 l17 l18 l19 l20 l21 l22 l23 l24 l25 : Slot}  (h : W0 rm 165 [l0, l1, l2, l3, l4, l5, l6, l7, l8, l9, l10, l11, l12, l13, l14, l15, l16, l17, l18, l19, l20, l21, l22, l23, l24, l25] (S) (H) Q) : W0 rm 161 [l0, l1, l2, l3, l4, l5, l6, l7, l8, l9, l10, l11, l12, l13, l14, l15, l16, l17, l18, l19, l20, l21, l22, l23, l24, l25] (S) H Q := W.goto at_161 (by decide) (by decide) h
theorem s0_164 {rm : Room} {S : List Value} {H : AHeap} {Q : Option Value → AHeap → Prop} {l0 l1 l2 l3 l4 l5 l6 l7 l8 l9 l10 l11 l12 l13 l14 l15 l16 l17 l18 l19 l20 l21 l22 l23 l24 l25 : Slot}  (h : W0 rm 165 [l0, l1, l2, l3, l4, l5, l6, l7, l8, l9, l10, l11, l12, l13, l14, l15, l16, l17, l18, l19, l20, l21, l22, l23, l24, l25] (.int 1 :: S) (H) Q) : W0 rm 164 [l0, l1, l2, l3, l4, l5, l6, l7, l8, l9, l10, l11, l12, l13, l14, l15, l16, l17, l18, l19, l20, l21, l22, l23, l24, l25] (S) H Q := W.iconst' at_164 (by decide) h
theorem s0_165 {rm : Room} {S : List Value} {H : AHeap} {Q : Option Value → AHeap → Prop} {l0 l1 l2 l3 l4 l5 l6 l7 l8 l9 l10 l11 l12 l13 l14 l15 l16 l17 l18 l19 l20 l21 l22 l23 l24 l25 : Slot} {x : Int32} (ho : one l14 = true) (h : W0 rm 167 [l0, l1, l2, l3, l4, l5, l6, l7, l8, l9, l10, l11, l12, l13, .val (.int x), l15, l16, l17, l18, l19, l20, l21, l22, l23, l24, l25] (S) (H) Q) : W0 rm 165 [l0, l1, l2, l3, l4, l5, l6, l7, l8, l9, l10, l11, l12, l13, l14, l15, l16, l17, l18, l19, l20, l21, l22, l23, l24, l25] (.int x :: S) H Q := W.istore at_165 rfl ho h
theorem s0_165w {rm : Room} {S : List Value} {H : AHeap} {Q : Option Value → AHeap → Prop} {l0 l1 l2 l3 l4 l5 l6 l7 l8 l9 l10 l11 l12 l13 l15 l16 l17 l18 l19 l20 l21 l22 l23 l24 l25 : Slot} {w : Value} {x : Int32} (ho : w.category = 2) (h : W0 rm 167 [l0, l1, l2, l3, l4, l5, l6, l7, l8, l9, l10, l11, l12, l13, .val (.int x), .unset, l16, l17, l18, l19, l20, l21, l22, l23, l24, l25] (S) (H) Q) : W0 rm 165 [l0, l1, l2, l3, l4, l5, l6, l7, l8, l9, l10, l11, l12, l13, .val w, l15, l16, l17, l18, l19, l20, l21, l22, l23, l24, l25] (.int x :: S) H Q := W.istoreW at_165 rfl ho (Nat.le_of_ble_eq_true rfl) h
theorem s0_165s {rm : Room} {S : List Value} {H : AHeap} {Q : Option Value → AHeap → Prop} {l0 l1 l2 l3 l4 l5 l6 l7 l8 l9 l10 l11 l12 l13 l15 l16 l17 l18 l19 l20 l21 l22 l23 l24 l25 : Slot} {x : Int32} (h : W0 rm 167 [l0, l1, l2, l3, l4, l5, l6, l7, l8, l9, l10, l11, l12, .unset, .val (.int x), l15, l16, l17, l18, l19, l20, l21, l22, l23, l24, l25] (S) (H) Q) : W0 rm 165 [l0, l1, l2, l3, l4, l5, l6, l7, l8, l9, l10, l11, l12, l13, .second, l15, l16, l17, l18, l19, l20, l21, l22, l23, l24, l25] (.int x :: S) H Q := W.istoreS at_165 rfl (by decide) h
theorem s0_167 {rm : Room} {S : List Value} {H : AHeap} {Q : Option Value → AHeap → Prop} {l0 l1 l2 l3 l4 l5 l6 l7 l8 l9 l10 l11 l12 l14 l15 l16 l17 l18 l19 l20 l21 l22 l23 l24 l25 : Slot} {i : Nat} (h : W0 rm 169 [l0, l1, l2, l3, l4, l5, l6, l7, l8, l9, l10, l11, l12, .val (.ref i), l14, l15, l16, l17, l18, l19, l20, l21, l22, l23, l24, l25] (.ref i :: S) (H) Q) : W0 rm 167 [l0, l1, l2, l3, l4, l5, l6, l7, l8, l9, l10, l11, l12, .val (.ref i), l14, l15, l16, l17, l18, l19, l20, l21, l22, l23, l24, l25] (S) H Q := W.aload at_167 rfl rfl h
theorem s0_167n {rm : Room} {S : List Value} {H : AHeap} {Q : Option Value → AHeap → Prop} {l0 l1 l2 l3 l4 l5 l6 l7 l8 l9 l10 l11 l12 l14 l15 l16 l17 l18 l19 l20 l21 l22 l23 l24 l25 : Slot}  (h : W0 rm 169 [l0, l1, l2, l3, l4, l5, l6, l7, l8, l9, l10, l11, l12, .val .null, l14, l15, l16, l17, l18, l19, l20, l21, l22, l23, l24, l25] (.null :: S) (H) Q) : W0 rm 167 [l0, l1, l2, l3, l4, l5, l6, l7, l8, l9, l10, l11, l12, .val .null, l14, l15, l16, l17, l18, l19, l20, l21, l22, l23, l24, l25] (S) H Q := W.aload at_167 rfl rfl h
theorem s0_169 {rm : Room} {S : List Value} {H : AHeap} {Q : Option Value → AHeap → Prop} {l0 l1 l2 l3 l4 l5 l6 l7 l8 l9 l10 l11 l12 l13 l15 l16 l17 l18 l19 l20 l21 l22 l23 l24 l25 : Slot} {x : Int32} (h : W0 rm 171 [l0, l1, l2, l3, l4, l5, l6, l7, l8, l9, l10, l11, l12, l13, .val (.int x), l15, l16, l17, l18, l19, l20, l21, l22, l23, l24, l25] (.int x :: S) (H) Q) : W0 rm 169 [l0, l1, l2, l3, l4, l5, l6, l7, l8, l9, l10, l11, l12, l13, .val (.int x), l15, l16, l17, l18, l19, l20, l21, l22, l23, l24, l25] (S) H Q := W.iload at_169 rfl h
theorem s0_171 {rm : Room} {S : List Value} {H : AHeap} {Q : Option Value → AHeap → Prop} {l0 l1 l2 l4 l5 l6 l7 l8 l9 l10 l11 l12 l13 l14 l15 l16 l17 l18 l19 l20 l21 l22 l23 l24 l25 : Slot} {x : Int32} (h : W0 rm 172 [l0, l1, l2, .val (.int x), l4, l5, l6, l7, l8, l9, l10, l11, l12, l13, l14, l15, l16, l17, l18, l19, l20, l21, l22, l23, l24, l25] (.int x :: S) (H) Q) : W0 rm 171 [l0, l1, l2, .val (.int x), l4, l5, l6, l7, l8, l9, l10, l11, l12, l13, l14, l15, l16, l17, l18, l19, l20, l21, l22, l23, l24, l25] (S) H Q := W.iload_n at_171 rfl h
theorem s0_172 {rm : Room} {S : List Value} {H : AHeap} {Q : Option Value → AHeap → Prop} {l0 l1 l2 l3 l4 l5 l6 l7 l8 l9 l10 l11 l12 l13 l14 l15 l16 l17 l18 l19 l20 l21 l22 l23 l24 l25 : Slot} {rm' : Room} {H' : AHeap} {i : Nat} {vs : List Value} {a0 : Int32} {a1 : Int32} {r : Int32} (hH : H[i]? = some (.inl (0, vs))) (hM : M7 rm' [.ref i, .int a0, .int a1] H (Is (some (.int r)) H')) (hr : rok rm rm' 5 S = true) (h : W0 (less rm rm') 175 [l0, l1, l2, l3, l4, l5, l6, l7, l8, l9, l10, l11, l12, l13, l14, l15, l16, l17, l18, l19, l20, l21, l22, l23, l24, l25] (.int r :: S) H' Q) : W0 rm 172 [l0, l1, l2, l3, l4, l5, l6, l7, l8, l9, l10, l11, l12, l13, l14, l15, l16, l17, l18, l19, l20, l21, l22, l23, l24, l25] (.int a1 :: .int a0 :: .ref i :: S) H Q := W.callV (c := 0) (S := S) (as := [.int a0, .int a1]) (rm' := rm') at_172 (List.mem_of_getElem? (i := 55) rfl) (List.mem_of_getElem? (i := 56) rfl) (List.mem_of_getElem? (i := 58) rfl) (Or.inl rfl) kt (List.mem_of_getElem? (i := 57) rfl) (List.mem_of_getElem? (i := 3) rfl) (List.mem_of_getElem? (i := 59) rfl) (by decide) rfl pd7 rfl rfl hH hM hr (fun _ _ q => by obtain ⟨rfl, rfl⟩ := q; exact h)
theorem s0_172q {rm : Room} {S : List Value} {H : AHeap} {Q : Option Value → AHeap → Prop} {l0 l1 l2 l3 l4 l5 l6 l7 l8 l9 l10 l11 l12 l13 l14 l15 l16 l17 l18 l19 l20 l21 l22 l23 l24 l25 : Slot} {rm' : Room} {Q' : Option Value → AHeap → Prop} {i : Nat} {vs : List Value} {a0 a1 : Value} (hH : H[i]? = some (.inl (0, vs))) (hM : M7 rm' [.ref i, a0, a1] H Q') (hr : rok rm rm' 5 S = true) (h : ∀ v H', Q' v H' → W0 (less rm rm') 175 [l0, l1, l2, l3, l4, l5, l6, l7, l8, l9, l10, l11, l12, l13, l14, l15, l16, l17, l18, l19, l20, l21, l22, l23, l24, l25] (v.toList ++ S) H' Q) : W0 rm 172 [l0, l1, l2, l3, l4, l5, l6, l7, l8, l9, l10, l11, l12, l13, l14, l15, l16, l17, l18, l19, l20, l21, l22, l23, l24, l25] (a1 :: a0 :: .ref i :: S) H Q := W.callV (c := 0) (S := S) (as := [a0, a1]) (rm' := rm') at_172 (List.mem_of_getElem? (i := 55) rfl) (List.mem_of_getElem? (i := 56) rfl) (List.mem_of_getElem? (i := 58) rfl) (Or.inl rfl) kt (List.mem_of_getElem? (i := 57) rfl) (List.mem_of_getElem? (i := 3) rfl) (List.mem_of_getElem? (i := 59) rfl) (by decide) rfl pd7 rfl rfl hH hM hr h
theorem s0_175 {rm : Room} {S : List Value} {H : AHeap} {Q : Option Value → AHeap → Prop} {l0 l1 l2 l3 l4 l5 l6 l7 l8 l9 l10 l11 l12 l13 l14 l15 l16 l17 l18 l19 l20 l21 l22 l23 l24 l25 : Slot} {x : Int32} (ho : one l15 = true) (h : W0 rm 177 [l0, l1, l2, l3, l4, l5, l6, l7, l8, l9, l10, l11, l12, l13, l14, .val (.int x), l16, l17, l18, l19, l20, l21, l22, l23, l24, l25] (S) (H) Q) : W0 rm 175 [l0, l1, l2, l3, l4, l5, l6, l7, l8, l9, l10, l11, l12, l13, l14, l15, l16, l17, l18, l19, l20, l21, l22, l23, l24, l25] (.int x :: S) H Q := W.istore at_175 rfl ho h
theorem s0_175w {rm : Room} {S : List Value} {H : AHeap} {Q : Option Value → AHeap → Prop} {l0 l1 l2 l3 l4 l5 l6 l7 l8 l9 l10 l11 l12 l13 l14 l16 l17 l18 l19 l20 l21 l22 l23 l24 l25 : Slot} {w : Value} {x : Int32} (ho : w.category = 2) (h : W0 rm 177 [l0, l1, l2, l3, l4, l5, l6, l7, l8, l9, l10, l11, l12, l13, l14, .val (.int x), .unset, l17, l18, l19, l20, l21, l22, l23, l24, l25] (S) (H) Q) : W0 rm 175 [l0, l1, l2, l3, l4, l5, l6, l7, l8, l9, l10, l11, l12, l13, l14, .val w, l16, l17, l18, l19, l20, l21, l22, l23, l24, l25] (.int x :: S) H Q := W.istoreW at_175 rfl ho (Nat.le_of_ble_eq_true rfl) h
theorem s0_175s {rm : Room} {S : List Value} {H : AHeap} {Q : Option Value → AHeap → Prop} {l0 l1 l2 l3 l4 l5 l6 l7 l8 l9 l10 l11 l12 l13 l14 l16 l17 l18 l19 l20 l21 l22 l23 l24 l25 : Slot} {x : Int32} (h : W0 rm 177 [l0, l1, l2, l3, l4, l5, l6, l7, l8, l9, l10, l11, l12, l13, .unset, .val (.int x), l16, l17, l18, l19, l20, l21, l22, l23, l24, l25] (S) (H) Q) : W0 rm 175 [l0, l1, l2, l3, l4, l5, l6, l7, l8, l9, l10, l11, l12, l13, l14, .second, l16, l17, l18, l19, l20, l21, l22, l23, l24, l25] (.int x :: S) H Q := W.istoreS at_175 rfl (by decide) h
theorem s0_177 {rm : Room} {S : List Value} {H : AHeap} {Q : Option Value → AHeap → Prop} {l0 l1 l2 l3 l4 l5 l6 l7 l8 l10 l11 l12 l13 l14 l15 l16 l17 l18 l19 l20 l21 l22 l23 l24 l25 : Slot} {x : Int32} (h : W0 rm 179 [l0, l1, l2, l3, l4, l5, l6, l7, l8, .val (.int x), l10, l11, l12, l13, l14, l15, l16, l17, l18, l19, l20, l21, l22, l23, l24, l25] (.int x :: S) (H) Q) : W0 rm 177 [l0, l1, l2, l3, l4, l5, l6, l7, l8, .val (.int x), l10, l11, l12, l13, l14, l15, l16, l17, l18, l19, l20, l21, l22, l23, l24, l25] (S) H Q := W.iload at_177 rfl h
theorem s0_179 {rm : Room} {S : List Value} {H : AHeap} {Q : Option Value → AHeap → Prop} {l0 l1 l2 l3 l4 l5 l6 l7 l8 l9 l10 l11 l12 l13 l14 l15 l16 l17 l18 l19 l20 l21 l22 l23 l24 l25 : Slot} {x : Int32} (h1 : x = 0 → W0 rm 196 [l0, l1, l2, l3, l4, l5, l6, l7, l8, l9, l10, l11, l12, l13, l14, l15, l16, l17, l18, l19, l20, l21, l22, l23, l24, l25] S H Q) (h2 : ¬ x = 0 → W0 rm 182 [l0, l1, l2, l3, l4, l5, l6, l7, l8, l9, l10, l11, l12, l13, l14, l15, l16, l17, l18, l19, l20, l21, l22, l23, l24, l25] S H Q) : W0 rm 179 [l0, l1, l2, l3, l4, l5, l6, l7, l8, l9, l10, l11, l12, l13, l14, l15, l16, l17, l18, l19, l20, l21, l22, l23, l24, l25] (.int x :: S) H Q := W.ifc at_179 (by decide) (by decide) h1 h2
theorem s0_182 {rm : Room} {S : List Value} {H : AHeap} {Q : Option Value → AHeap → Prop} {l0 l1 l3 l4 l5 l6 l7 l8 l9 l10 l11 l12 l13 l14 l15 l16 l17 l18 l19 l20 l21 l22 l23 l24 l25 : Slot} {x : Int32} (h : W0 rm 183 [l0, l1, .val (.int x), l3, l4, l5, l6, l7, l8, l9, l10, l11, l12, l13, l14, l15, l16, l17, l18, l19, l20, l21, l22, l23, l24, l25] (.int x :: S) (H) Q) : W0 rm 182 [l0, l1, .val (.int x), l3, l4, l5, l6, l7, l8, l9, l10, l11, l12, l13, l14, l15, l16, l17, l18, l19, l20, l21, l22, l23, l24, l25] (S) H Q := W.iload_n at_182 rfl h
theorem s0_183 {rm : Room} {S : List Value} {H : AHeap} {Q : Option Value → AHeap → Prop} {l0 l1 l2 l4 l5 l6 l7 l8 l9 l10 l11 l12 l13 l14 l15 l16 l17 l18 l19 l20 l21 l22 l23 l24 l25 : Slot} {x : Int32} (h : W0 rm 184 [l0, l1, l2, .val (.int x), l4, l5, l6, l7, l8, l9, l10, l11, l12, l13, l14, l15, l16, l17, l18, l19, l20, l21, l22, l23, l24, l25] (.int x :: S) (H) Q) : W0 rm 183 [l0, l1, l2, .val (.int x), l4, l5, l6, l7, l8, l9, l10, l11, l12, l13, l14, l15, l16, l17, l18, l19, l20, l21, l22, l23, l24, l25] (S) H Q := W.iload_n at_183 rfl h
theorem s0_184 {rm : Room} {S : List Value} {H : AHeap} {Q : Option Value → AHeap → Prop} {l0 l1 l2 l3 l5 l6 l7 l8 l9 l10 l11 l12 l13 l14 l15 l16 l17 l18 l19 l20 l21 l22 l23 l24 l25 : Slot} {x : Int64} (h : W0 rm 186 [l0, l1, l2, l3, .val (.long x), l5, l6, l7, l8, l9, l10, l11, l12, l13, l14, l15, l16, l17, l18, l19, l20, l21, l22, l23, l24, l25] (.long x :: S) (H) Q) : W0 rm 184 [l0, l1, l2, l3, .val (.long x), l5, l6, l7, l8, l9, l10, l11, l12, l13, l14, l15, l16, l17, l18, l19, l20, l21, l22, l23, l24, l25] (S) H Q := W.lload at_184 rfl h
theorem s0_186 {rm : Room} {S : List Value} {H : AHeap} {Q : Option Value → AHeap → Prop} {l0 l1 l2 l3 l4 l5 l6 l7 l8 l9 l10 l11 l12 l13 l14 l15 l16 l17 l18 l19 l20 l21 l22 l23 l24 l25 : Slot} {rm' : Room} {H' : AHeap} {a0 : Int32} {a1 : Int32} {a2 : Int64} {r : Int32} (hM : M8 rm' [.int a0, .int a1, .long a2] H (Is (some (.int r)) H')) (hr : rok rm rm' 4 S = true) (h : W0 (less rm rm') 189 [l0, l1, l2, l3, l4, l5, l6, l7, l8, l9, l10, l11, l12, l13, l14, l15, l16, l17, l18, l19, l20, l21, l22, l23, l24, l25] (.int r :: S) H' Q) : W0 rm 186 [l0, l1, l2, l3, l4, l5, l6, l7, l8, l9, l10, l11, l12, l13, l14, l15, l16, l17, l18, l19, l20, l21, l22, l23, l24, l25] (.long a2 :: .int a1 :: .int a0 :: S) H Q := W.callS (S := S) (as := [.int a0, .int a1, .long a2]) (rm' := rm') at_186 (List.mem_of_getElem? (i := 60) rfl) (List.mem_of_getElem? (i := 61) rfl) (List.mem_of_getElem? (i := 62) rfl) (List.mem_of_getElem? (i := 63) rfl) (by decide) pd8 rfl rfl hM hr (fun _ _ q => by obtain ⟨rfl, rfl⟩ := q; exact h)
theorem s0_186q {rm : Room} {S : List Value} {H : AHeap} {Q : Option Value → AHeap → Prop} {l0 l1 l2 l3 l4 l5 l6 l7 l8 l9 l10 l11 l12 l13 l14 l15 l16 l17 l18 l19 l20 l21 l22 l23 l24 l25 : Slot} {rm' : Room} {Q' : Option Value → AHeap → Prop} {a0 a1 a2 : Value} (hM : M8 rm' [a0, a1, a2] H Q') (hr : rok rm rm' 4 S = true) (h : ∀ v H', Q' v H' → W0 (less rm rm') 189 [l0, l1, l2, l3, l4, l5, l6, l7, l8, l9, l10, l11, l12, l13, l14, l15, l16, l17, l18, l19, l20, l21, l22, l23, l24, l25] (v.toList ++ S) H' Q) : W0 rm 186 [l0, l1, l2, l3, l4, l5, l6, l7, l8, l9, l10, l11, l12, l13, l14, l15, l16, l17, l18, l19, l20, l21, l22, l23, l24, l25] (a2 :: a1 :: a0 :: S) H Q := W.callS (S := S) (as := [a0, a1, a2]) (rm' := rm') at_186 (List.mem_of_getElem? (i := 60) rfl) (List.mem_of_getElem? (i := 61) rfl) (List.mem_of_getElem? (i := 62) rfl) (List.mem_of_getElem? (i := 63) rfl) (by decide) pd8 rfl rfl hM hr h
theorem s0_189 {rm : Room} {S : List Value} {H : AHeap} {Q : Option Value → AHeap → Prop} {l0 l1 l2 l3 l4 l5 l6 l7 l8 l9 l10 l11 l12 l13 l14 l15 l16 l17 l18 l19 l20 l21 l22 l23 l24 l25 : Slot} {x : Int32} (h1 : x = 0 → W0 rm 196 [l0, l1, l2, l3, l4, l5, l6, l7, l8, l9, l10, l11, l12, l13, l14, l15, l16, l17, l18, l19, l20, l21, l22, l23, l24, l25] S H Q) (h2 : ¬ x = 0 → W0 rm 192 [l0, l1, l2, l3, l4, l5, l6, l7, l8, l9, l10, l11, l12, l13, l14, l15, l16, l17, l18, l19, l20, l21, l22, l23, l24, l25] S H Q) : W0 rm 189 [l0, l1, l2, l3, l4, l5, l6, l7, l8, l9, l10, l11, l12, l13, l14, l15, l16, l17, l18, l19, l20, l21, l22, l23, l24, l25] (.int x :: S) H Q := W.ifc at_189 (by decide) (by decide) h1 h2
theorem s0_192 {rm : Room} {S : List Value} {H : AHeap} {Q : Option Value → AHeap → Prop} {l0 l1 l2 l3 l4 l5 l6 l7 l8 l9 l10 l11 l12 l13 l14 l15 l16 l17 l18 l19 l20 l21 l22 l23 l24 l25 : Slot}  (h : W0 rm 193 [l0, l1, l2, l3, l4, l5, l6, l7, l8, l9, l10, l11, l12, l13, l14, l15, l16, l17, l18, l19, l20, l21, l22, l23, l24, l25] (.int 1 :: S) (H) Q) : W0 rm 192 [l0, l1, l2, l3, l4, l5, l6, l7, l8, l9, l10, l11, l12, l13, l14, l15, l16, l17, l18, l19, l20, l21, l22, l23, l24, l25] (S) H Q := W.iconst' at_192 (by decide) h
theorem s0_193 {rm : Room} {S : List Value} {H : AHeap} {Q : Option Value → AHeap → Prop} {l0 l1 l2 l3 l4 l5 l6 l7 l8 l9 l10 l11 l12 l13 l14 l15 l16 l17 l18 l19 l20 l21 l22 l23 l24 l25 : Slot}  (h : W0 rm 197 [l0, l1, l2, l3, l4, l5, l6, l7, l8, l9, l10, l11, l12, l13, l14, l15, l16, l17, l18, l19, l20, l21, l22, l23, l24, l25] (S) (H) Q) : W0 rm 193 [l0, l1, l2, l3, l4, l5, l6, l7, l8, l9, l10, l11, l12, l13, l14, l15, l16, l17, l18, l19, l20, l21, l22, l23, l24, l25] (S) H Q := W.goto at_193 (by decide) (by decide) h
theorem s0_196 {rm : Room} {S : List Value} {H : AHeap} {Q : Option Value → AHeap → Prop} {l0 l1 l2 l3 l4 l5 l6 l7 l8 l9 l10 l11 l12 l13 l14 l15 l16 l17 l18 l19 l20 l21 l22 l23 l24 l25 : Slot}  (h : W0 rm 197 [l0, l1, l2, l3, l4, l5, l6, l7, l8, l9, l10, l11, l12, l13, l14, l15, l16, l17, l18, l19, l20, l21, l22, l23, l24, l25] (.int 0 :: S) (H) Q) : W0 rm 196 [l0, l1, l2, l3, l4, l5, l6, l7, l8, l9, l10, l11, l12, l13, l14, l15, l16, l17, l18, l19, l20, l21, l22, l23, l24, l25] (S) H Q := W.iconst' at_196 (by decide) h
theorem s0_197 {rm : Room} {S : List Value} {H : AHeap} {Q : Option Value → AHeap → Prop} {l0 l1 l2 l3 l4 l5 l6 l7 l8 l9 l10 l11 l12 l13 l14 l15 l16 l17 l18 l19 l20 l21 l22 l23 l24 l25 : Slot} {x : Int32} (ho : one l16 = true) (h : W0 rm 199 [l0, l1, l2, l3, l4, l5, l6, l7, l8, l9, l10, l11, l12, l13, l14, l15, .val (.int x), l17, l18, l19, l20, l21, l22, l23, l24, l25] (S) (H) Q) : W0 rm 197 [l0, l1, l2, l3, l4, l5, l6, l7, l8, l9, l10, l11, l12, l13, l14, l15, l16, l17, l18, l19, l20, l21, l22, l23, l24, l25] (.int x :: S) H Q := W.istore at_197 rfl ho h
theorem s0_197w {rm : Room} {S : List Value} {H : AHeap} {Q : Option Value → AHeap → Prop} {l0 l1 l2 l3 l4 l5 l6 l7 l8 l9 l10 l11 l12 l13 l14 l15 l17 l18 l19 l20 l21 l22 l23 l24 l25 : Slot} {w : Value} {x : Int32} (ho : w.category = 2) (h : W0 rm 199 [l0, l1, l2, l3, l4, l5, l6, l7, l8, l9, l10, l11, l12, l13, l14, l15, .val (.int x), .unset, l18, l19, l20, l21, l22, l23, l24, l25] (S) (H) Q) : W0 rm 197 [l0, l1, l2, l3, l4, l5, l6, l7, l8, l9, l10, l11, l12, l13, l14, l15, .val w, l17, l18, l19, l20, l21, l22, l23, l24, l25] (.int x :: S) H Q := W.istoreW at_197 rfl ho (Nat.le_of_ble_eq_true rfl) h
theorem s0_197s {rm : Room} {S : List Value} {H : AHeap} {Q : Option Value → AHeap → Prop} {l0 l1 l2 l3 l4 l5 l6 l7 l8 l9 l10 l11 l12 l13 l14 l15 l17 l18 l19 l20 l21 l22 l23 l24 l25 : Slot} {x : Int32} (h : W0 rm 199 [l0, l1, l2, l3, l4, l5, l6, l7, l8, l9, l10, l11, l12, l13, l14, .unset, .val (.int x), l17, l18, l19, l20, l21, l22, l23, l24, l25] (S) (H) Q) : W0 rm 197 [l0, l1, l2, l3, l4, l5, l6, l7, l8, l9, l10, l11, l12, l13, l14, l15, .second, l17, l18, l19, l20, l21, l22, l23, l24, l25] (.int x :: S) H Q := W.istoreS at_197 rfl (by decide) h
theorem s0_199 {rm : Room} {S : List Value} {H : AHeap} {Q : Option Value → AHeap → Prop} {l0 l1 l2 l3 l4 l5 l6 l8 l9 l10 l11 l12 l13 l14 l15 l16 l17 l18 l19 l20 l21 l22 l23 l24 l25 : Slot} {x : Int32} (h : W0 rm 201 [l0, l1, l2, l3, l4, l5, l6, .val (.int x), l8, l9, l10, l11, l12, l13, l14, l15, l16, l17, l18, l19, l20, l21, l22, l23, l24, l25] (.int x :: S) (H) Q) : W0 rm 199 [l0, l1, l2, l3, l4, l5, l6, .val (.int x), l8, l9, l10, l11, l12, l13, l14, l15, l16, l17, l18, l19, l20, l21, l22, l23, l24, l25] (S) H Q := W.iload at_199 rfl h
theorem s0_201 {rm : Room} {S : List Value} {H : AHeap} {Q : Option Value → AHeap → Prop} {l0 l1 l2 l3 l4 l5 l6 l7 l8 l9 l10 l11 l12 l13 l14 l15 l16 l17 l18 l19 l20 l21 l22 l23 l24 l25 : Slot} {x : Int32} (h1 : x = 0 → W0 rm 218 [l0, l1, l2, l3, l4, l5, l6, l7, l8, l9, l10, l11, l12, l13, l14, l15, l16, l17, l18, l19, l20, l21, l22, l23, l24, l25] S H Q) (h2 : ¬ x = 0 → W0 rm 204 [l0, l1, l2, l3, l4, l5, l6, l7, l8, l9, l10, l11, l12, l13, l14, l15, l16, l17, l18, l19, l20, l21, l22, l23, l24, l25] S H Q) : W0 rm 201 [l0, l1, l2, l3, l4, l5, l6, l7, l8, l9, l10, l11, l12, l13, l14, l15, l16, l17, l18, l19, l20, l21, l22, l23, l24, l25] (.int x :: S) H Q := W.ifc at_201 (by decide) (by decide) h1 h2
theorem s0_204 {rm : Room} {S : List Value} {H : AHeap} {Q : Option Value → AHeap → Prop} {l1 l2 l3 l4 l5 l6 l7 l8 l9 l10 l11 l12 l13 l14 l15 l16 l17 l18 l19 l20 l21 l22 l23 l24 l25 : Slot} {x : Int32} (h : W0 rm 205 [.val (.int x), l1, l2, l3, l4, l5, l6, l7, l8, l9, l10, l11, l12, l13, l14, l15, l16, l17, l18, l19, l20, l21, l22, l23, l24, l25] (.int x :: S) (H) Q) : W0 rm 204 [.val (.int x), l1, l2, l3, l4, l5, l6, l7, l8, l9, l10, l11, l12, l13, l14, l15, l16, l17, l18, l19, l20, l21, l22, l23, l24, l25] (S) H Q := W.iload_n at_204 rfl h
theorem s0_205 {rm : Room} {S : List Value} {H : AHeap} {Q : Option Value → AHeap → Prop} {l0 l1 l2 l4 l5 l6 l7 l8 l9 l10 l11 l12 l13 l14 l15 l16 l17 l18 l19 l20 l21 l22 l23 l24 l25 : Slot} {x : Int32} (h : W0 rm 206 [l0, l1, l2, .val (.int x), l4, l5, l6, l7, l8, l9, l10, l11, l12, l13, l14, l15, l16, l17, l18, l19, l20, l21, l22, l23, l24, l25] (.int x :: S) (H) Q) : W0 rm 205 [l0, l1, l2, .val (.int x), l4, l5, l6, l7, l8, l9, l10, l11, l12, l13, l14, l15, l16, l17, l18, l19, l20, l21, l22, l23, l24, l25] (S) H Q := W.iload_n at_205 rfl h
theorem s0_206 {rm : Room} {S : List Value} {H : AHeap} {Q : Option Value → AHeap → Prop} {l0 l1 l2 l3 l5 l6 l7 l8 l9 l10 l11 l12 l13 l14 l15 l16 l17 l18 l19 l20 l21 l22 l23 l24 l25 : Slot} {x : Int64} (h : W0 rm 208 [l0, l1, l2, l3, .val (.long x), l5, l6, l7, l8, l9, l10, l11, l12, l13, l14, l15, l16, l17, l18, l19, l20, l21, l22, l23, l24, l25] (.long x :: S) (H) Q) : W0 rm 206 [l0, l1, l2, l3, .val (.long x), l5, l6, l7, l8, l9, l10, l11, l12, l13, l14, l15, l16, l17, l18, l19, l20, l21, l22, l23, l24, l25] (S) H Q := W.lload at_206 rfl h
theorem s0_208 {rm : Room} {S : List Value} {H : AHeap} {Q : Option Value → AHeap → Prop} {l0 l1 l2 l3 l4 l5 l6 l7 l8 l9 l10 l11 l12 l13 l14 l15 l16 l17 l18 l19 l20 l21 l22 l23 l24 l25 : Slot} {rm' : Room} {H' : AHeap} {a0 : Int32} {a1 : Int32} {a2 : Int64} {r : Int32} (hM : M8 rm' [.int a0, .int a1, .long a2] H (Is (some (.int r)) H')) (hr : rok rm rm' 4 S = true) (h : W0 (less rm rm') 211 [l0, l1, l2, l3, l4, l5, l6, l7, l8, l9, l10, l11, l12, l13, l14, l15, l16, l17, l18, l19, l20, l21, l22, l23, l24, l25] (.int r :: S) H' Q) : W0 rm 208 [l0, l1, l2, l3, l4, l5, l6, l7, l8, l9, l10, l11, l12, l13, l14, l15, l16, l17, l18, l19, l20, l21, l22, l23, l24, l25] (.long a2 :: .int a1 :: .int a0 :: S) H Q := W.callS (S := S) (as := [.int a0, .int a1, .long a2]) (rm' := rm') at_208 (List.mem_of_getElem? (i := 60) rfl) (List.mem_of_getElem? (i := 61) rfl) (List.mem_of_getElem? (i := 62) rfl) (List.mem_of_getElem? (i := 63) rfl) (by decide) pd8 rfl rfl hM hr (fun _ _ q => by obtain ⟨rfl, rfl⟩ := q; exact h)
theorem s0_208q {rm : Room} {S : List Value} {H : AHeap} {Q : Option Value → AHeap → Prop} {l0 l1 l2 l3 l4 l5 l6 l7 l8 l9 l10 l11 l12 l13 l14 l15 l16 l17 l18 l19 l20 l21 l22 l23 l24 l25 : Slot} {rm' : Room} {Q' : Option Value → AHeap → Prop} {a0 a1 a2 : Value} (hM : M8 rm' [a0, a1, a2] H Q') (hr : rok rm rm' 4 S = true) (h : ∀ v H', Q' v H' → W0 (less rm rm') 211 [l0, l1, l2, l3, l4, l5, l6, l7, l8, l9, l10, l11, l12, l13, l14, l15, l16, l17, l18, l19, l20, l21, l22, l23, l24, l25] (v.toList ++ S) H' Q) : W0 rm 208 [l0, l1, l2, l3, l4, l5, l6, l7, l8, l9, l10, l11, l12, l13, l14, l15, l16, l17, l18, l19, l20, l21, l22, l23, l24, l25] (a2 :: a1 :: a0 :: S) H Q := W.callS (S := S) (as := [a0, a1, a2]) (rm' := rm') at_208 (List.mem_of_getElem? (i := 60) rfl) (List.mem_of_getElem? (i := 61) rfl) (List.mem_of_getElem? (i := 62) rfl) (List.mem_of_getElem? (i := 63) rfl) (by decide) pd8 rfl rfl hM hr h
theorem s0_211 {rm : Room} {S : List Value} {H : AHeap} {Q : Option Value → AHeap → Prop} {l0 l1 l2 l3 l4 l5 l6 l7 l8 l9 l10 l11 l12 l13 l14 l15 l16 l17 l18 l19 l20 l21 l22 l23 l24 l25 : Slot} {x : Int32} (h1 : x = 0 → W0 rm 218 [l0, l1, l2, l3, l4, l5, l6, l7, l8, l9, l10, l11, l12, l13, l14, l15, l16, l17, l18, l19, l20, l21, l22, l23, l24, l25] S H Q) (h2 : ¬ x = 0 → W0 rm 214 [l0, l1, l2, l3, l4, l5, l6, l7, l8, l9, l10, l11, l12, l13, l14, l15, l16, l17, l18, l19, l20, l21, l22, l23, l24, l25] S H Q) : W0 rm 211 [l0, l1, l2, l3, l4, l5, l6, l7, l8, l9, l10, l11, l12, l13, l14, l15, l16, l17, l18, l19, l20, l21, l22, l23, l24, l25] (.int x :: S) H Q := W.ifc at_211 (by decide) (by decide) h1 h2
theorem s0_214 {rm : Room} {S : List Value} {H : AHeap} {Q : Option Value → AHeap → Prop} {l0 l1 l2 l3 l4 l5 l6 l7 l8 l9 l10 l11 l12 l13 l14 l15 l16 l17 l18 l19 l20 l21 l22 l23 l24 l25 : Slot}  (h : W0 rm 215 [l0, l1, l2, l3, l4, l5, l6, l7, l8, l9, l10, l11, l12, l13, l14, l15, l16, l17, l18, l19, l20, l21, l22, l23, l24, l25] (.int 1 :: S) (H) Q) : W0 rm 214 [l0, l1, l2, l3, l4, l5, l6, l7, l8, l9, l10, l11, l12, l13, l14, l15, l16, l17, l18, l19, l20, l21, l22, l23, l24, l25] (S) H Q := W.iconst' at_214 (by decide) h
theorem s0_215 {rm : Room} {S : List Value} {H : AHeap} {Q : Option Value → AHeap → Prop} {l0 l1 l2 l3 l4 l5 l6 l7 l8 l9 l10 l11 l12 l13 l14 l15 l16 l17 l18 l19 l20 l21 l22 l23 l24 l25 : Slot}  (h : W0 rm 219 [l0, l1, l2, l3, l4, l5, l6, l7, l8, l9, l10, l11, l12, l13, l14, l15, l16, l17, l18, l19, l20, l21, l22, l23, l24, l25] (S) (H) Q) : W0 rm 215 [l0, l1, l2, l3, l4, l5, l6, l7, l8, l9, l10, l11, l12, l13, l14, l15, l16, l17, l18, l19, l20, l21, l22, l23, l24, l25] (S) H Q := W.goto at_215 (by decide) (by decide) h
theorem s0_218 {rm : Room} {S : List Value} {H : AHeap} {Q : Option Value → AHeap → Prop} {l0 l1 l2 l3 l4 l5 l6 l7 l8 l9 l10 l11 l12 l13 l14 l15 l16 l17 l18 l19 l20 l21 l22 l23 l24 l25 : Slot}  (h : W0 rm 219 [l0, l1, l2, l3, l4, l5, l6, l7, l8, l9, l10, l11, l12, l13, l14, l15, l16, l17, l18, l19, l20, l21, l22, l23, l24, l25] (.int 0 :: S) (H) Q) : W0 rm 218 [l0, l1, l2, l3, l4, l5, l6, l7, l8, l9, l10, l11, l12, l13, l14, l15, l16, l17, l18, l19, l20, l21, l22, l23, l24, l25] (S) H Q := W.iconst' at_218 (by decide) h
theorem s0_219 {rm : Room} {S : List Value} {H : AHeap} {Q : Option Value → AHeap → Prop} {l0 l1 l2 l3 l4 l5 l6 l7 l8 l9 l10 l11 l12 l13 l14 l15 l16 l17 l18 l19 l20 l21 l22 l23 l24 l25 : Slot} {x : Int32} (ho : one l17 = true) (h : W0 rm 221 [l0, l1, l2, l3, l4, l5, l6, l7, l8, l9, l10, l11, l12, l13, l14, l15, l16, .val (.int x), l18, l19, l20, l21, l22, l23, l24, l25] (S) (H) Q) : W0 rm 219 [l0, l1, l2, l3, l4, l5, l6, l7, l8, l9, l10, l11, l12, l13, l14, l15, l16, l17, l18, l19, l20, l21, l22, l23, l24, l25] (.int x :: S) H Q := W.istore at_219 rfl ho h
theorem s0_219w {rm : Room} {S : List Value} {H : AHeap} {Q : Option Value → AHeap → Prop} {l0 l1 l2 l3 l4 l5 l6 l7 l8 l9 l10 l11 l12 l13 l14 l15 l16 l18 l19 l20 l21 l22 l23 l24 l25 : Slot} {w : Value} {x : Int32} (ho : w.category = 2) (h : W0 rm 221 [l0, l1, l2, l3, l4, l5, l6, l7, l8, l9, l10, l11, l12, l13, l14, l15, l16, .val (.int x), .unset, l19, l20, l21, l22, l23, l24, l25] (S) (H) Q) : W0 rm 219 [l0, l1, l2, l3, l4, l5, l6, l7, l8, l9, l10, l11, l12, l13, l14, l15, l16, .val w, l18, l19, l20, l21, l22, l23, l24, l25] (.int x :: S) H Q := W.istoreW at_219 rfl ho (Nat.le_of_ble_eq_true rfl) h
theorem s0_219s {rm : Room} {S : List Value} {H : AHeap} {Q : Option Value → AHeap → Prop} {l0 l1 l2 l3 l4 l5 l6 l7 l8 l9 l10 l11 l12 l13 l14 l15 l16 l18 l19 l20 l21 l22 l23 l24 l25 : Slot} {x : Int32} (h : W0 rm 221 [l0, l1, l2, l3, l4, l5, l6, l7, l8, l9, l10, l11, l12, l13, l14, l15, .unset, .val (.int x), l18, l19, l20, l21, l22, l23, l24, l25] (S) (H) Q) : W0 rm 219 [l0, l1, l2, l3, l4, l5, l6, l7, l8, l9, l10, l11, l12, l13, l14, l15, l16, .second, l18, l19, l20, l21, l22, l23, l24, l25] (.int x :: S) H Q := W.istoreS at_219 rfl (by decide) h
theorem s0_221 {rm : Room} {S : List Value} {H : AHeap} {Q : Option Value → AHeap → Prop} {l0 l1 l2 l3 l4 l5 l6 l7 l9 l10 l11 l12 l13 l14 l15 l16 l17 l18 l19 l20 l21 l22 l23 l24 l25 : Slot} {x : Int32} (h : W0 rm 223 [l0, l1, l2, l3, l4, l5, l6, l7, .val (.int x), l9, l10, l11, l12, l13, l14, l15, l16, l17, l18, l19, l20, l21, l22, l23, l24, l25] (.int x :: S) (H) Q) : W0 rm 221 [l0, l1, l2, l3, l4, l5, l6, l7, .val (.int x), l9, l10, l11, l12, l13, l14, l15, l16, l17, l18, l19, l20, l21, l22, l23, l24, l25] (S) H Q := W.iload at_221 rfl h
theorem s0_223 {rm : Room} {S : List Value} {H : AHeap} {Q : Option Value → AHeap → Prop} {l0 l1 l2 l3 l4 l5 l6 l7 l8 l9 l10 l11 l12 l13 l14 l15 l16 l17 l18 l19 l20 l21 l22 l23 l24 l25 : Slot} {x : Int32} (h1 : x = 0 → W0 rm 240 [l0, l1, l2, l3, l4, l5, l6, l7, l8, l9, l10, l11, l12, l13, l14, l15, l16, l17, l18, l19, l20, l21, l22, l23, l24, l25] S H Q) (h2 : ¬ x = 0 → W0 rm 226 [l0, l1, l2, l3, l4, l5, l6, l7, l8, l9, l10, l11, l12, l13, l14, l15, l16, l17, l18, l19, l20, l21, l22, l23, l24, l25] S H Q) : W0 rm 223 [l0, l1, l2, l3, l4, l5, l6, l7, l8, l9, l10, l11, l12, l13, l14, l15, l16, l17, l18, l19, l20, l21, l22, l23, l24, l25] (.int x :: S) H Q := W.ifc at_223 (by decide) (by decide) h1 h2
theorem s0_226 {rm : Room} {S : List Value} {H : AHeap} {Q : Option Value → AHeap → Prop} {l0 l2 l3 l4 l5 l6 l7 l8 l9 l10 l11 l12 l13 l14 l15 l16 l17 l18 l19 l20 l21 l22 l23 l24 l25 : Slot} {x : Int32} (h : W0 rm 227 [l0, .val (.int x), l2, l3, l4, l5, l6, l7, l8, l9, l10, l11, l12, l13, l14, l15, l16, l17, l18, l19, l20, l21, l22, l23, l24, l25] (.int x :: S) (H) Q) : W0 rm 226 [l0, .val (.int x), l2, l3, l4, l5, l6, l7, l8, l9, l10, l11, l12, l13, l14, l15, l16, l17, l18, l19, l20, l21, l22, l23, l24, l25] (S) H Q := W.iload_n at_226 rfl h
theorem s0_227 {rm : Room} {S : List Value} {H : AHeap} {Q : Option Value → AHeap → Prop} {l0 l1 l2 l4 l5 l6 l7 l8 l9 l10 l11 l12 l13 l14 l15 l16 l17 l18 l19 l20 l21 l22 l23 l24 l25 : Slot} {x : Int32} (h : W0 rm 228 [l0, l1, l2, .val (.int x), l4, l5, l6, l7, l8, l9, l10, l11, l12, l13, l14, l15, l16, l17, l18, l19, l20, l21, l22, l23, l24, l25] (.int x :: S) (H) Q) : W0 rm 227 [l0, l1, l2, .val (.int x), l4, l5, l6, l7, l8, l9, l10, l11, l12, l13, l14, l15, l16, l17, l18, l19, l20, l21, l22, l23, l24, l25] (S) H Q := W.iload_n at_227 rfl h
theorem s0_228 {rm : Room} {S : List Value} {H : AHeap} {Q : Option Value → AHeap → Prop} {l0 l1 l2 l3 l5 l6 l7 l8 l9 l10 l11 l12 l13 l14 l15 l16 l17 l18 l19 l20 l21 l22 l23 l24 l25 : Slot} {x : Int64} (h : W0 rm 230 [l0, l1, l2, l3, .val (.long x), l5, l6, l7, l8, l9, l10, l11, l12, l13, l14, l15, l16, l17, l18, l19, l20, l21, l22, l23, l24, l25] (.long x :: S) (H) Q) : W0 rm 228 [l0, l1, l2, l3, .val (.long x), l5, l6, l7, l8, l9, l10, l11, l12, l13, l14, l15, l16, l17, l18, l19, l20, l21, l22, l23, l24, l25] (S) H Q := W.lload at_228 rfl h
theorem s0_230 {rm : Room} {S : List Value} {H : AHeap} {Q : Option Value → AHeap → Prop} {l0 l1 l2 l3 l4 l5 l6 l7 l8 l9 l10 l11 l12 l13 l14 l15 l16 l17 l18 l19 l20 l21 l22 l23 l24 l25 : Slot} {rm' : Room} {H' : AHeap} {a0 : Int32} {a1 : Int32} {a2 : Int64} {r : Int32} (hM : M8 rm' [.int a0, .int a1, .long a2] H (Is (some (.int r)) H')) (hr : rok rm rm' 4 S = true) (h : W0 (less rm rm') 233 [l0, l1, l2, l3, l4, l5, l6, l7, l8, l9, l10, l11, l12, l13, l14, l15, l16, l17, l18, l19, l20, l21, l22, l23, l24, l25] (.int r :: S) H' Q) : W0 rm 230 [l0, l1, l2, l3, l4, l5, l6, l7, l8, l9, l10, l11, l12, l13, l14, l15, l16, l17, l18, l19, l20, l21, l22, l23, l24, l25] (.long a2 :: .int a1 :: .int a0 :: S) H Q := W.callS (S := S) (as := [.int a0, .int a1, .long a2]) (rm' := rm') at_230 (List.mem_of_getElem? (i := 60) rfl) (List.mem_of_getElem? (i := 61) rfl) (List.mem_of_getElem? (i := 62) rfl) (List.mem_of_getElem? (i := 63) rfl) (by decide) pd8 rfl rfl hM hr (fun _ _ q => by obtain ⟨rfl, rfl⟩ := q; exact h)
theorem s0_230q {rm : Room} {S : List Value} {H : AHeap} {Q : Option Value → AHeap → Prop} {l0 l1 l2 l3 l4 l5 l6 l7 l8 l9 l10 l11 l12 l13 l14 l15 l16 l17 l18 l19 l20 l21 l22 l23 l24 l25 : Slot} {rm' : Room} {Q' : Option Value → AHeap → Prop} {a0 a1 a2 : Value} (hM : M8 rm' [a0, a1, a2] H Q') (hr : rok rm rm' 4 S = true) (h : ∀ v H', Q' v H' → W0 (less rm rm') 233 [l0, l1, l2, l3, l4, l5, l6, l7, l8, l9, l10, l11, l12, l13, l14, l15, l16, l17, l18, l19, l20, l21, l22, l23, l24, l25] (v.toList ++ S) H' Q) : W0 rm 230 [l0, l1, l2, l3, l4, l5, l6, l7, l8, l9, l10, l11, l12, l13, l14, l15, l16, l17, l18, l19, l20, l21, l22, l23, l24, l25] (a2 :: a1 :: a0 :: S) H Q := W.callS (S := S) (as := [a0, a1, a2]) (rm' := rm') at_230 (List.mem_of_getElem? (i := 60) rfl) (List.mem_of_getElem? (i := 61) rfl) (List.mem_of_getElem? (i := 62) rfl) (List.mem_of_getElem? (i := 63) rfl) (by decide) pd8 rfl rfl hM hr h
theorem s0_233 {rm : Room} {S : List Value} {H : AHeap} {Q : Option Value → AHeap → Prop} {l0 l1 l2 l3 l4 l5 l6 l7 l8 l9 l10 l11 l12 l13 l14 l15 l16 l17 l18 l19 l20 l21 l22 l23 l24 l25 : Slot} {x : Int32} (h1 : x = 0 → W0 rm 240 [l0, l1, l2, l3, l4, l5, l6, l7, l8, l9, l10, l11, l12, l13, l14, l15, l16, l17, l18, l19, l20, l21, l22, l23, l24, l25] S H Q) (h2 : ¬ x = 0 → W0 rm 236 [l0, l1, l2, l3, l4, l5, l6, l7, l8, l9, l10, l11, l12, l13, l14, l15, l16, l17, l18, l19, l20, l21, l22, l23, l24, l25] S H Q) : W0 rm 233 [l0, l1, l2, l3, l4, l5, l6, l7, l8, l9, l10, l11, l12, l13, l14, l15, l16, l17, l18, l19, l20, l21, l22, l23, l24, l25] (.int x :: S) H Q := W.ifc at_233 (by decide) (by decide) h1 h2
theorem s0_236 {rm : Room} {S : List Value} {H : AHeap} {Q : Option Value → AHeap → Prop} {l0 l1 l2 l3 l4 l5 l6 l7 l8 l9 l10 l11 l12 l13 l14 l15 l16 l17 l18 l19 l20 l21 l22 l23 l24 l25 : Slot}  (h : W0 rm 237 [l0, l1, l2, l3, l4, l5, l6, l7, l8, l9, l10, l11, l12, l13, l14, l15, l16, l17, l18, l19, l20, l21, l22, l23, l24, l25] (.int 1 :: S) (H) Q) : W0 rm 236 [l0, l1, l2, l3, l4, l5, l6, l7, l8, l9, l10, l11, l12, l13, l14, l15, l16, l17, l18, l19, l20, l21, l22, l23, l24, l25] (S) H Q := W.iconst' at_236 (by decide) h
theorem s0_237 {rm : Room} {S : List Value} {H : AHeap} {Q : Option Value → AHeap → Prop} {l0 l1 l2 l3 l4 l5 l6 l7 l8 l9 l10 l11 l12 l13 l14 l15 l16 l17 l18 l19 l20 l21 l22 l23 l24 l25 : Slot}  (h : W0 rm 241 [l0, l1, l2, l3, l4, l5, l6, l7, l8, l9, l10, l11, l12, l13, l14, l15, l16, l17, l18, l19, l20, l21, l22, l23, l24, l25] (S) (H) Q) : W0 rm 237 [l0, l1, l2, l3, l4, l5, l6, l7, l8, l9, l10, l11, l12, l13, l14, l15, l16, l17, l18, l19, l20, l21, l22, l23, l24, l25] (S) H Q := W.goto at_237 (by decide) (by decide) h
theorem s0_240 {rm : Room} {S : List Value} {H : AHeap} {Q : Option Value → AHeap → Prop} {l0 l1 l2 l3 l4 l5 l6 l7 l8 l9 l10 l11 l12 l13 l14 l15 l16 l17 l18 l19 l20 l21 l22 l23 l24 l25 : Slot}  (h : W0 rm 241 [l0, l1, l2, l3, l4, l5, l6, l7, l8, l9, l10, l11, l12, l13, l14, l15, l16, l17, l18, l19, l20, l21, l22, l23, l24, l25] (.int 0 :: S) (H) Q) : W0 rm 240 [l0, l1, l2, l3, l4, l5, l6, l7, l8, l9, l10, l11, l12, l13, l14, l15, l16, l17, l18, l19, l20, l21, l22, l23, l24, l25] (S) H Q := W.iconst' at_240 (by decide) h
theorem s0_241 {rm : Room} {S : List Value} {H : AHeap} {Q : Option Value → AHeap → Prop} {l0 l1 l2 l3 l4 l5 l6 l7 l8 l9 l10 l11 l12 l13 l14 l15 l16 l17 l18 l19 l20 l21 l22 l23 l24 l25 : Slot} {x : Int32} (ho : one l18 = true) (h : W0 rm 243 [l0, l1, l2, l3, l4, l5, l6, l7, l8, l9, l10, l11, l12, l13, l14, l15, l16, l17, .val (.int x), l19, l20, l21, l22, l23, l24, l25] (S) (H) Q) : W0 rm 241 [l0, l1, l2, l3, l4, l5, l6, l7, l8, l9, l10, l11, l12, l13, l14, l15, l16, l17, l18, l19, l20, l21, l22, l23, l24, l25] (.int x :: S) H Q := W.istore at_241 rfl ho h
theorem s0_241w {rm : Room} {S : List Value} {H : AHeap} {Q : Option Value → AHeap → Prop} {l0 l1 l2 l3 l4 l5 l6 l7 l8 l9 l10 l11 l12 l13 l14 l15 l16 l17 l19 l20 l21 l22 l23 l24 l25 : Slot} {w : Value} {x : Int32} (ho : w.category = 2) (h : W0 rm 243 [l0, l1, l2, l3, l4, l5, l6, l7, l8, l9, l10, l11, l12, l13, l14, l15, l16, l17, .val (.int x), .unset, l20, l21, l22, l23, l24, l25] (S) (H) Q) : W0 rm 241 [l0, l1, l2, l3, l4, l5, l6, l7, l8, l9, l10, l11, l12, l13, l14, l15, l16, l17, .val w, l19, l20, l21, l22, l23, l24, l25] (.int x :: S) H Q := W.istoreW at_241 rfl ho (Nat.le_of_ble_eq_true rfl) h
theorem s0_241s {rm : Room} {S : List Value} {H : AHeap} {Q : Option Value → AHeap → Prop} {l0 l1 l2 l3 l4 l5 l6 l7 l8 l9 l10 l11 l12 l13 l14 l15 l16 l17 l19 l20 l21 l22 l23 l24 l25 : Slot} {x : Int32} (h : W0 rm 243 [l0, l1, l2, l3, l4, l5, l6, l7, l8, l9, l10, l11, l12, l13, l14, l15, l16, .unset, .val (.int x), l19, l20, l21, l22, l23, l24, l25] (S) (H) Q) : W0 rm 241 [l0, l1, l2, l3, l4, l5, l6, l7, l8, l9, l10, l11, l12, l13, l14, l15, l16, l17, .second, l19, l20, l21, l22, l23, l24, l25] (.int x :: S) H Q := W.istoreS at_241 rfl (by decide) h
theorem s0_243 {rm : Room} {S : List Value} {H : AHeap} {Q : Option Value → AHeap → Prop} {l0 l1 l2 l3 l4 l5 l6 l7 l8 l9 l11 l12 l13 l14 l15 l16 l17 l18 l19 l20 l21 l22 l23 l24 l25 : Slot} {x : Int32} (h : W0 rm 245 [l0, l1, l2, l3, l4, l5, l6, l7, l8, l9, .val (.int x), l11, l12, l13, l14, l15, l16, l17, l18, l19, l20, l21, l22, l23, l24, l25] (.int x :: S) (H) Q) : W0 rm 243 [l0, l1, l2, l3, l4, l5, l6, l7, l8, l9, .val (.int x), l11, l12, l13, l14, l15, l16, l17, l18, l19, l20, l21, l22, l23, l24, l25] (S) H Q := W.iload at_243 rfl h
theorem s0_245 {rm : Room} {S : List Value} {H : AHeap} {Q : Option Value → AHeap → Prop} {l0 l1 l2 l3 l4 l5 l6 l7 l8 l9 l10 l11 l12 l13 l14 l15 l16 l17 l18 l19 l20 l21 l22 l23 l24 l25 : Slot} {x : Int32} (h1 : x = 0 → W0 rm 264 [l0, l1, l2, l3, l4, l5, l6, l7, l8, l9, l10, l11, l12, l13, l14, l15, l16, l17, l18, l19, l20, l21, l22, l23, l24, l25] S H Q) (h2 : ¬ x = 0 → W0 rm 248 [l0, l1, l2, l3, l4, l5, l6, l7, l8, l9, l10, l11, l12, l13, l14, l15, l16, l17, l18, l19, l20, l21, l22, l23, l24, l25] S H Q) : W0 rm 245 [l0, l1, l2, l3, l4, l5, l6, l7, l8, l9, l10, l11, l12, l13, l14, l15, l16, l17, l18, l19, l20, l21, l22, l23, l24, l25] (.int x :: S) H Q := W.ifc at_245 (by decide) (by decide) h1 h2
theorem s0_248 {rm : Room} {S : List Value} {H : AHeap} {Q : Option Value → AHeap → Prop} {l0 l1 l2 l3 l4 l5 l6 l7 l8 l9 l10 l11 l12 l13 l14 l15 l17 l18 l19 l20 l21 l22 l23 l24 l25 : Slot} {x : Int32} (h : W0 rm 250 [l0, l1, l2, l3, l4, l5, l6, l7, l8, l9, l10, l11, l12, l13, l14, l15, .val (.int x), l17, l18, l19, l20, l21, l22, l23, l24, l25] (.int x :: S) (H) Q) : W0 rm 248 [l0, l1, l2, l3, l4, l5, l6, l7, l8, l9, l10, l11, l12, l13, l14, l15, .val (.int x), l17, l18, l19, l20, l21, l22, l23, l24, l25] (S) H Q := W.iload at_248 rfl h
theorem s0_250 {rm : Room} {S : List Value} {H : AHeap} {Q : Option Value → AHeap → Prop} {l0 l1 l2 l3 l4 l5 l6 l7 l8 l9 l10 l11 l12 l13 l14 l15 l16 l17 l18 l19 l20 l21 l22 l23 l24 l25 : Slot} {x : Int32} (h1 : x = 0 → W0 rm 258 [l0, l1, l2, l3, l4, l5, l6, l7, l8, l9, l10, l11, l12, l13, l14, l15, l16, l17, l18, l19, l20, l21, l22, l23, l24, l25] S H Q) (h2 : ¬ x = 0 → W0 rm 253 [l0, l1, l2, l3, l4, l5, l6, l7, l8, l9, l10, l11, l12, l13, l14, l15, l16, l17, l18, l19, l20, l21, l22, l23, l24, l25] S H Q) : W0 rm 250 [l0, l1, l2, l3, l4, l5, l6, l7, l8, l9, l10, l11, l12, l13, l14, l15, l16, l17, l18, l19, l20, l21, l22, l23, l24, l25] (.int x :: S) H Q := W.ifc at_250 (by decide) (by decide) h1 h2
theorem s0_253 {rm : Room} {S : List Value} {H : AHeap} {Q : Option Value → AHeap → Prop} {l0 l1 l3 l4 l5 l6 l7 l8 l9 l10 l11 l12 l13 l14 l15 l16 l17 l18 l19 l20 l21 l22 l23 l24 l25 : Slot} {x : Int32} (h : W0 rm 254 [l0, l1, .val (.int x), l3, l4, l5, l6, l7, l8, l9, l10, l11, l12, l13, l14, l15, l16, l17, l18, l19, l20, l21, l22, l23, l24, l25] (.int x :: S) (H) Q) : W0 rm 253 [l0, l1, .val (.int x), l3, l4, l5, l6, l7, l8, l9, l10, l11, l12, l13, l14, l15, l16, l17, l18, l19, l20, l21, l22, l23, l24, l25] (S) H Q := W.iload_n at_253 rfl h
theorem s0_254 {rm : Room} {S : List Value} {H : AHeap} {Q : Option Value → AHeap → Prop} {l0 l1 l2 l3 l4 l5 l6 l7 l8 l9 l10 l11 l12 l13 l14 l15 l16 l17 l18 l19 l20 l21 l22 l23 l24 l25 : Slot} {x : Int32} (h : W0 rm 255 [l0, l1, l2, l3, l4, l5, l6, l7, l8, l9, l10, l11, l12, l13, l14, l15, l16, l17, l18, l19, l20, l21, l22, l23, l24, l25] (.long x.toInt64 :: S) (H) Q) : W0 rm 254 [l0, l1, l2, l3, l4, l5, l6, l7, l8, l9, l10, l11, l12, l13, l14, l15, l16, l17, l18, l19, l20, l21, l22, l23, l24, l25] (.int x :: S) H Q := W.i2l at_254 h
theorem s0_255 {rm : Room} {S : List Value} {H : AHeap} {Q : Option Value → AHeap → Prop} {l0 l1 l2 l3 l4 l5 l6 l7 l8 l9 l10 l11 l12 l13 l14 l15 l16 l17 l18 l19 l20 l21 l22 l23 l24 l25 : Slot}  (h : W0 rm 277 [l0, l1, l2, l3, l4, l5, l6, l7, l8, l9, l10, l11, l12, l13, l14, l15, l16, l17, l18, l19, l20, l21, l22, l23, l24, l25] (S) (H) Q) : W0 rm 255 [l0, l1, l2, l3, l4, l5, l6, l7, l8, l9, l10, l11, l12, l13, l14, l15, l16, l17, l18, l19, l20, l21, l22, l23, l24, l25] (S) H Q := W.goto at_255 (by decide) (by decide) h
theorem s0_258 {rm : Room} {S : List Value} {H : AHeap} {Q : Option Value → AHeap → Prop} {l0 l1 l2 l3 l4 l5 l6 l7 l8 l9 l10 l11 l12 l13 l14 l15 l16 l17 l18 l19 l20 l21 l22 l23 l24 l25 : Slot}  (h : W0 rm 261 [l0, l1, l2, l3, l4, l5, l6, l7, l8, l9, l10, l11, l12, l13, l14, l15, l16, l17, l18, l19, l20, l21, l22, l23, l24, l25] (.long 9223372036854775807 :: S) (H) Q) : W0 rm 258 [l0, l1, l2, l3, l4, l5, l6, l7, l8, l9, l10, l11, l12, l13, l14, l15, l16, l17, l18, l19, l20, l21, l22, l23, l24, l25] (S) H Q := W.ldcLong at_258 (List.mem_of_getElem? (i := 64) rfl) h
theorem s0_261 {rm : Room} {S : List Value} {H : AHeap} {Q : Option Value → AHeap → Prop} {l0 l1 l2 l3 l4 l5 l6 l7 l8 l9 l10 l11 l12 l13 l14 l15 l16 l17 l18 l19 l20 l21 l22 l23 l24 l25 : Slot}  (h : W0 rm 277 [l0, l1, l2, l3, l4, l5, l6, l7, l8, l9, l10, l11, l12, l13, l14, l15, l16, l17, l18, l19, l20, l21, l22, l23, l24, l25] (S) (H) Q) : W0 rm 261 [l0, l1, l2, l3, l4, l5, l6, l7, l8, l9, l10, l11, l12, l13, l14, l15, l16, l17, l18, l19, l20, l21, l22, l23, l24, l25] (S) H Q := W.goto at_261 (by decide) (by decide) h
theorem s0_264 {rm : Room} {S : List Value} {H : AHeap} {Q : Option Value → AHeap → Prop} {l0 l1 l2 l3 l4 l5 l6 l7 l8 l10 l11 l12 l13 l14 l15 l16 l17 l18 l19 l20 l21 l22 l23 l24 l25 : Slot} {x : Int32} (h : W0 rm 266 [l0, l1, l2, l3, l4, l5, l6, l7, l8, .val (.int x), l10, l11, l12, l13, l14, l15, l16, l17, l18, l19, l20, l21, l22, l23, l24, l25] (.int x :: S) (H) Q) : W0 rm 264 [l0, l1, l2, l3, l4, l5, l6, l7, l8, .val (.int x), l10, l11, l12, l13, l14, l15, l16, l17, l18, l19, l20, l21, l22, l23, l24, l25] (S) H Q := W.iload at_264 rfl h
theorem s0_266 {rm : Room} {S : List Value} {H : AHeap} {Q : Option Value → AHeap → Prop} {l0 l1 l2 l3 l4 l5 l6 l7 l8 l9 l10 l11 l12 l13 l14 l15 l16 l17 l18 l19 l20 l21 l22 l23 l24 l25 : Slot} {x : Int32} (h1 : x = 0 → W0 rm 274 [l0, l1, l2, l3, l4, l5, l6, l7, l8, l9, l10, l11, l12, l13, l14, l15, l16, l17, l18, l19, l20, l21, l22, l23, l24, l25] S H Q) (h2 : ¬ x = 0 → W0 rm 269 [l0, l1, l2, l3, l4, l5, l6, l7, l8, l9, l10, l11, l12, l13, l14, l15, l16, l17, l18, l19, l20, l21, l22, l23, l24, l25] S H Q) : W0 rm 266 [l0, l1, l2, l3, l4, l5, l6, l7, l8, l9, l10, l11, l12, l13, l14, l15, l16, l17, l18, l19, l20, l21, l22, l23, l24, l25] (.int x :: S) H Q := W.ifc at_266 (by decide) (by decide) h1 h2
theorem s0_269 {rm : Room} {S : List Value} {H : AHeap} {Q : Option Value → AHeap → Prop} {l0 l1 l3 l4 l5 l6 l7 l8 l9 l10 l11 l12 l13 l14 l15 l16 l17 l18 l19 l20 l21 l22 l23 l24 l25 : Slot} {x : Int32} (h : W0 rm 270 [l0, l1, .val (.int x), l3, l4, l5, l6, l7, l8, l9, l10, l11, l12, l13, l14, l15, l16, l17, l18, l19, l20, l21, l22, l23, l24, l25] (.int x :: S) (H) Q) : W0 rm 269 [l0, l1, .val (.int x), l3, l4, l5, l6, l7, l8, l9, l10, l11, l12, l13, l14, l15, l16, l17, l18, l19, l20, l21, l22, l23, l24, l25] (S) H Q := W.iload_n at_269 rfl h
theorem s0_270 {rm : Room} {S : List Value} {H : AHeap} {Q : Option Value → AHeap → Prop} {l0 l1 l2 l3 l4 l5 l6 l7 l8 l9 l10 l11 l12 l13 l14 l15 l16 l17 l18 l19 l20 l21 l22 l23 l24 l25 : Slot} {x : Int32} (h : W0 rm 271 [l0, l1, l2, l3, l4, l5, l6, l7, l8, l9, l10, l11, l12, l13, l14, l15, l16, l17, l18, l19, l20, l21, l22, l23, l24, l25] (.long x.toInt64 :: S) (H) Q) : W0 rm 270 [l0, l1, l2, l3, l4, l5, l6, l7, l8, l9, l10, l11, l12, l13, l14, l15, l16, l17, l18, l19, l20, l21, l22, l23, l24, l25] (.int x :: S) H Q := W.i2l at_270 h
theorem s0_271 {rm : Room} {S : List Value} {H : AHeap} {Q : Option Value → AHeap → Prop} {l0 l1 l2 l3 l4 l5 l6 l7 l8 l9 l10 l11 l12 l13 l14 l15 l16 l17 l18 l19 l20 l21 l22 l23 l24 l25 : Slot}  (h : W0 rm 277 [l0, l1, l2, l3, l4, l5, l6, l7, l8, l9, l10, l11, l12, l13, l14, l15, l16, l17, l18, l19, l20, l21, l22, l23, l24, l25] (S) (H) Q) : W0 rm 271 [l0, l1, l2, l3, l4, l5, l6, l7, l8, l9, l10, l11, l12, l13, l14, l15, l16, l17, l18, l19, l20, l21, l22, l23, l24, l25] (S) H Q := W.goto at_271 (by decide) (by decide) h
theorem s0_274 {rm : Room} {S : List Value} {H : AHeap} {Q : Option Value → AHeap → Prop} {l0 l1 l2 l3 l4 l5 l6 l7 l8 l9 l10 l11 l12 l13 l14 l15 l16 l17 l18 l19 l20 l21 l22 l23 l24 l25 : Slot}  (h : W0 rm 277 [l0, l1, l2, l3, l4, l5, l6, l7, l8, l9, l10, l11, l12, l13, l14, l15, l16, l17, l18, l19, l20, l21, l22, l23, l24, l25] (.long 9223372036854775807 :: S) (H) Q) : W0 rm 274 [l0, l1, l2, l3, l4, l5, l6, l7, l8, l9, l10, l11, l12, l13, l14, l15, l16, l17, l18, l19, l20, l21, l22, l23, l24, l25] (S) H Q := W.ldcLong at_274 (List.mem_of_getElem? (i := 64) rfl) h
theorem s0_277 {rm : Room} {S : List Value} {H : AHeap} {Q : Option Value → AHeap → Prop} {l0 l1 l2 l3 l4 l5 l6 l7 l8 l9 l10 l11 l12 l13 l14 l15 l16 l17 l18 l19 l20 l21 l22 l23 l24 l25 : Slot} {x : Int64} (ho : two l19 l20 = true) (h : W0 rm 279 [l0, l1, l2, l3, l4, l5, l6, l7, l8, l9, l10, l11, l12, l13, l14, l15, l16, l17, l18, .val (.long x), .second, l21, l22, l23, l24, l25] (S) (H) Q) : W0 rm 277 [l0, l1, l2, l3, l4, l5, l6, l7, l8, l9, l10, l11, l12, l13, l14, l15, l16, l17, l18, l19, l20, l21, l22, l23, l24, l25] (.long x :: S) H Q := W.lstore at_277 rfl rfl ho h
theorem s0_279 {rm : Room} {S : List Value} {H : AHeap} {Q : Option Value → AHeap → Prop} {l0 l1 l2 l3 l4 l5 l6 l7 l8 l9 l11 l12 l13 l14 l15 l16 l17 l18 l19 l20 l21 l22 l23 l24 l25 : Slot} {x : Int32} (h : W0 rm 281 [l0, l1, l2, l3, l4, l5, l6, l7, l8, l9, .val (.int x), l11, l12, l13, l14, l15, l16, l17, l18, l19, l20, l21, l22, l23, l24, l25] (.int x :: S) (H) Q) : W0 rm 279 [l0, l1, l2, l3, l4, l5, l6, l7, l8, l9, .val (.int x), l11, l12, l13, l14, l15, l16, l17, l18, l19, l20, l21, l22, l23, l24, l25] (S) H Q := W.iload at_279 rfl h
theorem s0_281 {rm : Room} {S : List Value} {H : AHeap} {Q : Option Value → AHeap → Prop} {l0 l1 l2 l3 l4 l5 l6 l7 l8 l9 l10 l11 l12 l13 l14 l15 l16 l17 l18 l19 l20 l21 l22 l23 l24 l25 : Slot} {x : Int32} (h1 : ¬ x = 0 → W0 rm 300 [l0, l1, l2, l3, l4, l5, l6, l7, l8, l9, l10, l11, l12, l13, l14, l15, l16, l17, l18, l19, l20, l21, l22, l23, l24, l25] S H Q) (h2 : x = 0 → W0 rm 284 [l0, l1, l2, l3, l4, l5, l6, l7, l8, l9, l10, l11, l12, l13, l14, l15, l16, l17, l18, l19, l20, l21, l22, l23, l24, l25] S H Q) : W0 rm 281 [l0, l1, l2, l3, l4, l5, l6, l7, l8, l9, l10, l11, l12, l13, l14, l15, l16, l17, l18, l19, l20, l21, l22, l23, l24, l25] (.int x :: S) H Q := W.ifc at_281 (by decide) (by decide) h1 h2
theorem s0_284 {rm : Room} {S : List Value} {H : AHeap} {Q : Option Value → AHeap → Prop} {l0 l1 l2 l3 l4 l5 l6 l7 l8 l9 l10 l11 l12 l13 l14 l15 l16 l18 l19 l20 l21 l22 l23 l24 l25 : Slot} {x : Int32} (h : W0 rm 286 [l0, l1, l2, l3, l4, l5, l6, l7, l8, l9, l10, l11, l12, l13, l14, l15, l16, .val (.int x), l18, l19, l20, l21, l22, l23, l24, l25] (.int x :: S) (H) Q) : W0 rm 284 [l0, l1, l2, l3, l4, l5, l6, l7, l8, l9, l10, l11, l12, l13, l14, l15, l16, .val (.int x), l18, l19, l20, l21, l22, l23, l24, l25] (S) H Q := W.iload at_284 rfl h
theorem s0_286 {rm : Room} {S : List Value} {H : AHeap} {Q : Option Value → AHeap → Prop} {l0 l1 l2 l3 l4 l5 l6 l7 l8 l9 l10 l11 l12 l13 l14 l15 l16 l17 l18 l19 l20 l21 l22 l23 l24 l25 : Slot} {x : Int32} (h1 : x = 0 → W0 rm 294 [l0, l1, l2, l3, l4, l5, l6, l7, l8, l9, l10, l11, l12, l13, l14, l15, l16, l17, l18, l19, l20, l21, l22, l23, l24, l25] S H Q) (h2 : ¬ x = 0 → W0 rm 289 [l0, l1, l2, l3, l4, l5, l6, l7, l8, l9, l10, l11, l12, l13, l14, l15, l16, l17, l18, l19, l20, l21, l22, l23, l24, l25] S H Q) : W0 rm 286 [l0, l1, l2, l3, l4, l5, l6, l7, l8, l9, l10, l11, l12, l13, l14, l15, l16, l17, l18, l19, l20, l21, l22, l23, l24, l25] (.int x :: S) H Q := W.ifc at_286 (by decide) (by decide) h1 h2
theorem s0_289 {rm : Room} {S : List Value} {H : AHeap} {Q : Option Value → AHeap → Prop} {l1 l2 l3 l4 l5 l6 l7 l8 l9 l10 l11 l12 l13 l14 l15 l16 l17 l18 l19 l20 l21 l22 l23 l24 l25 : Slot} {x : Int32} (h : W0 rm 290 [.val (.int x), l1, l2, l3, l4, l5, l6, l7, l8, l9, l10, l11, l12, l13, l14, l15, l16, l17, l18, l19, l20, l21, l22, l23, l24, l25] (.int x :: S) (H) Q) : W0 rm 289 [.val (.int x), l1, l2, l3, l4, l5, l6, l7, l8, l9, l10, l11, l12, l13, l14, l15, l16, l17, l18, l19, l20, l21, l22, l23, l24, l25] (S) H Q := W.iload_n at_289 rfl h
theorem s0_290 {rm : Room} {S : List Value} {H : AHeap} {Q : Option Value → AHeap → Prop} {l0 l1 l2 l3 l4 l5 l6 l7 l8 l9 l10 l11 l12 l13 l14 l15 l16 l17 l18 l19 l20 l21 l22 l23 l24 l25 : Slot} {x : Int32} (h : W0 rm 291 [l0, l1, l2, l3, l4, l5, l6, l7, l8, l9, l10, l11, l12, l13, l14, l15, l16, l17, l18, l19, l20, l21, l22, l23, l24, l25] (.long x.toInt64 :: S) (H) Q) : W0 rm 290 [l0, l1, l2, l3, l4, l5, l6, l7, l8, l9, l10, l11, l12, l13, l14, l15, l16, l17, l18, l19, l20, l21, l22, l23, l24, l25] (.int x :: S) H Q := W.i2l at_290 h
theorem s0_291 {rm : Room} {S : List Value} {H : AHeap} {Q : Option Value → AHeap → Prop} {l0 l1 l2 l3 l4 l5 l6 l7 l8 l9 l10 l11 l12 l13 l14 l15 l16 l17 l18 l19 l20 l21 l22 l23 l24 l25 : Slot}  (h : W0 rm 313 [l0, l1, l2, l3, l4, l5, l6, l7, l8, l9, l10, l11, l12, l13, l14, l15, l16, l17, l18, l19, l20, l21, l22, l23, l24, l25] (S) (H) Q) : W0 rm 291 [l0, l1, l2, l3, l4, l5, l6, l7, l8, l9, l10, l11, l12, l13, l14, l15, l16, l17, l18, l19, l20, l21, l22, l23, l24, l25] (S) H Q := W.goto at_291 (by decide) (by decide) h
theorem s0_294 {rm : Room} {S : List Value} {H : AHeap} {Q : Option Value → AHeap → Prop} {l0 l1 l2 l3 l4 l5 l6 l7 l8 l9 l10 l11 l12 l13 l14 l15 l16 l17 l18 l19 l20 l21 l22 l23 l24 l25 : Slot}  (h : W0 rm 297 [l0, l1, l2, l3, l4, l5, l6, l7, l8, l9, l10, l11, l12, l13, l14, l15, l16, l17, l18, l19, l20, l21, l22, l23, l24, l25] (.long 9223372036854775807 :: S) (H) Q) : W0 rm 294 [l0, l1, l2, l3, l4, l5, l6, l7, l8, l9, l10, l11, l12, l13, l14, l15, l16, l17, l18, l19, l20, l21, l22, l23, l24, l25] (S) H Q := W.ldcLong at_294 (List.mem_of_getElem? (i := 64) rfl) h
theorem s0_297 {rm : Room} {S : List Value} {H : AHeap} {Q : Option Value → AHeap → Prop} {l0 l1 l2 l3 l4 l5 l6 l7 l8 l9 l10 l11 l12 l13 l14 l15 l16 l17 l18 l19 l20 l21 l22 l23 l24 l25 : Slot}  (h : W0 rm 313 [l0, l1, l2, l3, l4, l5, l6, l7, l8, l9, l10, l11, l12, l13, l14, l15, l16, l17, l18, l19, l20, l21, l22, l23, l24, l25] (S) (H) Q) : W0 rm 297 [l0, l1, l2, l3, l4, l5, l6, l7, l8, l9, l10, l11, l12, l13, l14, l15, l16, l17, l18, l19, l20, l21, l22, l23, l24, l25] (S) H Q := W.goto at_297 (by decide) (by decide) h
theorem s0_300 {rm : Room} {S : List Value} {H : AHeap} {Q : Option Value → AHeap → Prop} {l0 l1 l2 l3 l4 l5 l6 l8 l9 l10 l11 l12 l13 l14 l15 l16 l17 l18 l19 l20 l21 l22 l23 l24 l25 : Slot} {x : Int32} (h : W0 rm 302 [l0, l1, l2, l3, l4, l5, l6, .val (.int x), l8, l9, l10, l11, l12, l13, l14, l15, l16, l17, l18, l19, l20, l21, l22, l23, l24, l25] (.int x :: S) (H) Q) : W0 rm 300 [l0, l1, l2, l3, l4, l5, l6, .val (.int x), l8, l9, l10, l11, l12, l13, l14, l15, l16, l17, l18, l19, l20, l21, l22, l23, l24, l25] (S) H Q := W.iload at_300 rfl h
theorem s0_302 {rm : Room} {S : List Value} {H : AHeap} {Q : Option Value → AHeap → Prop} {l0 l1 l2 l3 l4 l5 l6 l7 l8 l9 l10 l11 l12 l13 l14 l15 l16 l17 l18 l19 l20 l21 l22 l23 l24 l25 : Slot} {x : Int32} (h1 : x = 0 → W0 rm 310 [l0, l1, l2, l3, l4, l5, l6, l7, l8, l9, l10, l11, l12, l13, l14, l15, l16, l17, l18, l19, l20, l21, l22, l23, l24, l25] S H Q) (h2 : ¬ x = 0 → W0 rm 305 [l0, l1, l2, l3, l4, l5, l6, l7, l8, l9, l10, l11, l12, l13, l14, l15, l16, l17, l18, l19, l20, l21, l22, l23, l24, l25] S H Q) : W0 rm 302 [l0, l1, l2, l3, l4, l5, l6, l7, l8, l9, l10, l11, l12, l13, l14, l15, l16, l17, l18, l19, l20, l21, l22, l23, l24, l25] (.int x :: S) H Q := W.ifc at_302 (by decide) (by decide) h1 h2
theorem s0_305 {rm : Room} {S : List Value} {H : AHeap} {Q : Option Value → AHeap → Prop} {l1 l2 l3 l4 l5 l6 l7 l8 l9 l10 l11 l12 l13 l14 l15 l16 l17 l18 l19 l20 l21 l22 l23 l24 l25 : Slot} {x : Int32} (h : W0 rm 306 [.val (.int x), l1, l2, l3, l4, l5, l6, l7, l8, l9, l10, l11, l12, l13, l14, l15, l16, l17, l18, l19, l20, l21, l22, l23, l24, l25] (.int x :: S) (H) Q) : W0 rm 305 [.val (.int x), l1, l2, l3, l4, l5, l6, l7, l8, l9, l10, l11, l12, l13, l14, l15, l16, l17, l18, l19, l20, l21, l22, l23, l24, l25] (S) H Q := W.iload_n at_305 rfl h
theorem s0_306 {rm : Room} {S : List Value} {H : AHeap} {Q : Option Value → AHeap → Prop} {l0 l1 l2 l3 l4 l5 l6 l7 l8 l9 l10 l11 l12 l13 l14 l15 l16 l17 l18 l19 l20 l21 l22 l23 l24 l25 : Slot} {x : Int32} (h : W0 rm 307 [l0, l1, l2, l3, l4, l5, l6, l7, l8, l9, l10, l11, l12, l13, l14, l15, l16, l17, l18, l19, l20, l21, l22, l23, l24, l25] (.long x.toInt64 :: S) (H) Q) : W0 rm 306 [l0, l1, l2, l3, l4, l5, l6, l7, l8, l9, l10, l11, l12, l13, l14, l15, l16, l17, l18, l19, l20, l21, l22, l23, l24, l25] (.int x :: S) H Q := W.i2l at_306 h
theorem s0_307 {rm : Room} {S : List Value} {H : AHeap} {Q : Option Value → AHeap → Prop} {l0 l1 l2 l3 l4 l5 l6 l7 l8 l9 l10 l11 l12 l13 l14 l15 l16 l17 l18 l19 l20 l21 l22 l23 l24 l25 : Slot}  (h : W0 rm 313 [l0, l1, l2, l3, l4, l5, l6, l7, l8, l9, l10, l11, l12, l13, l14, l15, l16, l17, l18, l19, l20, l21, l22, l23, l24, l25] (S) (H) Q) : W0 rm 307 [l0, l1, l2, l3, l4, l5, l6, l7, l8, l9, l10, l11, l12, l13, l14, l15, l16, l17, l18, l19, l20, l21, l22, l23, l24, l25] (S) H Q := W.goto at_307 (by decide) (by decide) h
theorem s0_310 {rm : Room} {S : List Value} {H : AHeap} {Q : Option Value → AHeap → Prop} {l0 l1 l2 l3 l4 l5 l6 l7 l8 l9 l10 l11 l12 l13 l14 l15 l16 l17 l18 l19 l20 l21 l22 l23 l24 l25 : Slot}  (h : W0 rm 313 [l0, l1, l2, l3, l4, l5, l6, l7, l8, l9, l10, l11, l12, l13, l14, l15, l16, l17, l18, l19, l20, l21, l22, l23, l24, l25] (.long 9223372036854775807 :: S) (H) Q) : W0 rm 310 [l0, l1, l2, l3, l4, l5, l6, l7, l8, l9, l10, l11, l12, l13, l14, l15, l16, l17, l18, l19, l20, l21, l22, l23, l24, l25] (S) H Q := W.ldcLong at_310 (List.mem_of_getElem? (i := 64) rfl) h
theorem s0_313 {rm : Room} {S : List Value} {H : AHeap} {Q : Option Value → AHeap → Prop} {l0 l1 l2 l3 l4 l5 l6 l7 l8 l9 l10 l11 l12 l13 l14 l15 l16 l17 l18 l19 l20 l21 l22 l23 l24 l25 : Slot} {x : Int64} (ho : two l21 l22 = true) (h : W0 rm 315 [l0, l1, l2, l3, l4, l5, l6, l7, l8, l9, l10, l11, l12, l13, l14, l15, l16, l17, l18, l19, l20, .val (.long x), .second, l23, l24, l25] (S) (H) Q) : W0 rm 313 [l0, l1, l2, l3, l4, l5, l6, l7, l8, l9, l10, l11, l12, l13, l14, l15, l16, l17, l18, l19, l20, l21, l22, l23, l24, l25] (.long x :: S) H Q := W.lstore at_313 rfl rfl ho h
theorem s0_315 {rm : Room} {S : List Value} {H : AHeap} {Q : Option Value → AHeap → Prop} {l0 l1 l2 l3 l4 l5 l6 l7 l8 l9 l11 l12 l13 l14 l15 l16 l17 l18 l19 l20 l21 l22 l23 l24 l25 : Slot} {x : Int32} (h : W0 rm 317 [l0, l1, l2, l3, l4, l5, l6, l7, l8, l9, .val (.int x), l11, l12, l13, l14, l15, l16, l17, l18, l19, l20, l21, l22, l23, l24, l25] (.int x :: S) (H) Q) : W0 rm 315 [l0, l1, l2, l3, l4, l5, l6, l7, l8, l9, .val (.int x), l11, l12, l13, l14, l15, l16, l17, l18, l19, l20, l21, l22, l23, l24, l25] (S) H Q := W.iload at_315 rfl h
theorem s0_317 {rm : Room} {S : List Value} {H : AHeap} {Q : Option Value → AHeap → Prop} {l0 l1 l2 l3 l4 l5 l6 l7 l8 l9 l10 l11 l12 l13 l14 l15 l16 l17 l18 l19 l20 l21 l22 l23 l24 l25 : Slot} {x : Int32} (h1 : ¬ x = 0 → W0 rm 336 [l0, l1, l2, l3, l4, l5, l6, l7, l8, l9, l10, l11, l12, l13, l14, l15, l16, l17, l18, l19, l20, l21, l22, l23, l24, l25] S H Q) (h2 : x = 0 → W0 rm 320 [l0, l1, l2, l3, l4, l5, l6, l7, l8, l9, l10, l11, l12, l13, l14, l15, l16, l17, l18, l19, l20, l21, l22, l23, l24, l25] S H Q) : W0 rm 317 [l0, l1, l2, l3, l4, l5, l6, l7, l8, l9, l10, l11, l12, l13, l14, l15, l16, l17, l18, l19, l20, l21, l22, l23, l24, l25] (.int x :: S) H Q := W.ifc at_317 (by decide) (by decide) h1 h2
theorem s0_320 {rm : Room} {S : List Value} {H : AHeap} {Q : Option Value → AHeap → Prop} {l0 l1 l2 l3 l4 l5 l6 l7 l8 l9 l10 l11 l12 l13 l14 l15 l16 l17 l19 l20 l21 l22 l23 l24 l25 : Slot} {x : Int32} (h : W0 rm 322 [l0, l1, l2, l3, l4, l5, l6, l7, l8, l9, l10, l11, l12, l13, l14, l15, l16, l17, .val (.int x), l19, l20, l21, l22, l23, l24, l25] (.int x :: S) (H) Q) : W0 rm 320 [l0, l1, l2, l3, l4, l5, l6, l7, l8, l9, l10, l11, l12, l13, l14, l15, l16, l17, .val (.int x), l19, l20, l21, l22, l23, l24, l25] (S) H Q := W.iload at_320 rfl h
theorem s0_322 {rm : Room} {S : List Value} {H : AHeap} {Q : Option Value → AHeap → Prop} {l0 l1 l2 l3 l4 l5 l6 l7 l8 l9 l10 l11 l12 l13 l14 l15 l16 l17 l18 l19 l20 l21 l22 l23 l24 l25 : Slot} {x : Int32} (h1 : x = 0 → W0 rm 330 [l0, l1, l2, l3, l4, l5, l6, l7, l8, l9, l10, l11, l12, l13, l14, l15, l16, l17, l18, l19, l20, l21, l22, l23, l24, l25] S H Q) (h2 : ¬ x = 0 → W0 rm 325 [l0, l1, l2, l3, l4, l5, l6, l7, l8, l9, l10, l11, l12, l13, l14, l15, l16, l17, l18, l19, l20, l21, l22, l23, l24, l25] S H Q) : W0 rm 322 [l0, l1, l2, l3, l4, l5, l6, l7, l8, l9, l10, l11, l12, l13, l14, l15, l16, l17, l18, l19, l20, l21, l22, l23, l24, l25] (.int x :: S) H Q := W.ifc at_322 (by decide) (by decide) h1 h2
theorem s0_325 {rm : Room} {S : List Value} {H : AHeap} {Q : Option Value → AHeap → Prop} {l0 l2 l3 l4 l5 l6 l7 l8 l9 l10 l11 l12 l13 l14 l15 l16 l17 l18 l19 l20 l21 l22 l23 l24 l25 : Slot} {x : Int32} (h : W0 rm 326 [l0, .val (.int x), l2, l3, l4, l5, l6, l7, l8, l9, l10, l11, l12, l13, l14, l15, l16, l17, l18, l19, l20, l21, l22, l23, l24, l25] (.int x :: S) (H) Q) : W0 rm 325 [l0, .val (.int x), l2, l3, l4, l5, l6, l7, l8, l9, l10, l11, l12, l13, l14, l15, l16, l17, l18, l19, l20, l21, l22, l23, l24, l25] (S) H Q := W.iload_n at_325 rfl h
theorem s0_326 {rm : Room} {S : List Value} {H : AHeap} {Q : Option Value → AHeap → Prop} {l0 l1 l2 l3 l4 l5 l6 l7 l8 l9 l10 l11 l12 l13 l14 l15 l16 l17 l18 l19 l20 l21 l22 l23 l24 l25 : Slot} {x : Int32} (h : W0 rm 327 [l0, l1, l2, l3, l4, l5, l6, l7, l8, l9, l10, l11, l12, l13, l14, l15, l16, l17, l18, l19, l20, l21, l22, l23, l24, l25] (.long x.toInt64 :: S) (H) Q) : W0 rm 326 [l0, l1, l2, l3, l4, l5, l6, l7, l8, l9, l10, l11, l12, l13, l14, l15, l16, l17, l18, l19, l20, l21, l22, l23, l24, l25] (.int x :: S) H Q := W.i2l at_326 h
theorem s0_327 {rm : Room} {S : List Value} {H : AHeap} {Q : Option Value → AHeap → Prop} {l0 l1 l2 l3 l4 l5 l6 l7 l8 l9 l10 l11 l12 l13 l14 l15 l16 l17 l18 l19 l20 l21 l22 l23 l24 l25 : Slot}  (h : W0 rm 349 [l0, l1, l2, l3, l4, l5, l6, l7, l8, l9, l10, l11, l12, l13, l14, l15, l16, l17, l18, l19, l20, l21, l22, l23, l24, l25] (S) (H) Q) : W0 rm 327 [l0, l1, l2, l3, l4, l5, l6, l7, l8, l9, l10, l11, l12, l13, l14, l15, l16, l17, l18, l19, l20, l21, l22, l23, l24, l25] (S) H Q := W.goto at_327 (by decide) (by decide) h
theorem s0_330 {rm : Room} {S : List Value} {H : AHeap} {Q : Option Value → AHeap → Prop} {l0 l1 l2 l3 l4 l5 l6 l7 l8 l9 l10 l11 l12 l13 l14 l15 l16 l17 l18 l19 l20 l21 l22 l23 l24 l25 : Slot}  (h : W0 rm 333 [l0, l1, l2, l3, l4, l5, l6, l7, l8, l9, l10, l11, l12, l13, l14, l15, l16, l17, l18, l19, l20, l21, l22, l23, l24, l25] (.long 9223372036854775807 :: S) (H) Q) : W0 rm 330 [l0, l1, l2, l3, l4, l5, l6, l7, l8, l9, l10, l11, l12, l13, l14, l15, l16, l17, l18, l19, l20, l21, l22, l23, l24, l25] (S) H Q := W.ldcLong at_330 (List.mem_of_getElem? (i := 64) rfl) h
theorem s0_333 {rm : Room} {S : List Value} {H : AHeap} {Q : Option Value → AHeap → Prop} {l0 l1 l2 l3 l4 l5 l6 l7 l8 l9 l10 l11 l12 l13 l14 l15 l16 l17 l18 l19 l20 l21 l22 l23 l24 l25 : Slot}  (h : W0 rm 349 [l0, l1, l2, l3, l4, l5, l6, l7, l8, l9, l10, l11, l12, l13, l14, l15, l16, l17, l18, l19, l20, l21, l22, l23, l24, l25] (S) (H) Q) : W0 rm 333 [l0, l1, l2, l3, l4, l5, l6, l7, l8, l9, l10, l11, l12, l13, l14, l15, l16, l17, l18, l19, l20, l21, l22, l23, l24, l25] (S) H Q := W.goto at_333 (by decide) (by decide) h
theorem s0_336 {rm : Room} {S : List Value} {H : AHeap} {Q : Option Value → AHeap → Prop} {l0 l1 l2 l3 l4 l5 l6 l7 l9 l10 l11 l12 l13 l14 l15 l16 l17 l18 l19 l20 l21 l22 l23 l24 l25 : Slot} {x : Int32} (h : W0 rm 338 [l0, l1, l2, l3, l4, l5, l6, l7, .val (.int x), l9, l10, l11, l12, l13, l14, l15, l16, l17, l18, l19, l20, l21, l22, l23, l24, l25] (.int x :: S) (H) Q) : W0 rm 336 [l0, l1, l2, l3, l4, l5, l6, l7, .val (.int x), l9, l10, l11, l12, l13, l14, l15, l16, l17, l18, l19, l20, l21, l22, l23, l24, l25] (S) H Q := W.iload at_336 rfl h
theorem s0_338 {rm : Room} {S : List Value} {H : AHeap} {Q : Option Value → AHeap → Prop} {l0 l1 l2 l3 l4 l5 l6 l7 l8 l9 l10 l11 l12 l13 l14 l15 l16 l17 l18 l19 l20 l21 l22 l23 l24 l25 : Slot} {x : Int32} (h1 : x = 0 → W0 rm 346 [l0, l1, l2, l3, l4, l5, l6, l7, l8, l9, l10, l11, l12, l13, l14, l15, l16, l17, l18, l19, l20, l21, l22, l23, l24, l25] S H Q) (h2 : ¬ x = 0 → W0 rm 341 [l0, l1, l2, l3, l4, l5, l6, l7, l8, l9, l10, l11, l12, l13, l14, l15, l16, l17, l18, l19, l20, l21, l22, l23, l24, l25] S H Q) : W0 rm 338 [l0, l1, l2, l3, l4, l5, l6, l7, l8, l9, l10, l11, l12, l13, l14, l15, l16, l17, l18, l19, l20, l21, l22, l23, l24, l25] (.int x :: S) H Q := W.ifc at_338 (by decide) (by decide) h1 h2
theorem s0_341 {rm : Room} {S : List Value} {H : AHeap} {Q : Option Value → AHeap → Prop} {l0 l2 l3 l4 l5 l6 l7 l8 l9 l10 l11 l12 l13 l14 l15 l16 l17 l18 l19 l20 l21 l22 l23 l24 l25 : Slot} {x : Int32} (h : W0 rm 342 [l0, .val (.int x), l2, l3, l4, l5, l6, l7, l8, l9, l10, l11, l12, l13, l14, l15, l16, l17, l18, l19, l20, l21, l22, l23, l24, l25] (.int x :: S) (H) Q) : W0 rm 341 [l0, .val (.int x), l2, l3, l4, l5, l6, l7, l8, l9, l10, l11, l12, l13, l14, l15, l16, l17, l18, l19, l20, l21, l22, l23, l24, l25] (S) H Q := W.iload_n at_341 rfl h
theorem s0_342 {rm : Room} {S : List Value} {H : AHeap} {Q : Option Value → AHeap → Prop} {l0 l1 l2 l3 l4 l5 l6 l7 l8 l9 l10 l11 l12 l13 l14 l15 l16 l17 l18 l19 l20 l21 l22 l23 l24 l25 : Slot} {x : Int32} (h : W0 rm 343 [l0, l1, l2, l3, l4, l5, l6, l7, l8, l9, l10, l11, l12, l13, l14, l15, l16, l17, l18, l19, l20, l21, l22, l23, l24, l25] (.long x.toInt64 :: S) (H) Q) : W0 rm 342 [l0, l1, l2, l3, l4, l5, l6, l7, l8, l9, l10, l11, l12, l13, l14, l15, l16, l17, l18, l19, l20, l21, l22, l23, l24, l25] (.int x :: S) H Q := W.i2l at_342 h
theorem s0_343 {rm : Room} {S : List Value} {H : AHeap} {Q : Option Value → AHeap → Prop} {l0 l1 l2 l3 l4 l5 l6 l7 l8 l9 l10 l11 l12 l13 l14 l15 l16 l17 l18 l19 l20 l21 l22 l23 l24 l25 : Slot}  (h : W0 rm 349 [l0, l1, l2, l3, l4, l5, l6, l7, l8, l9, l10, l11, l12, l13, l14, l15, l16, l17, l18, l19, l20, l21, l22, l23, l24, l25] (S) (H) Q) : W0 rm 343 [l0, l1, l2, l3, l4, l5, l6, l7, l8, l9, l10, l11, l12, l13, l14, l15, l16, l17, l18, l19, l20, l21, l22, l23, l24, l25] (S) H Q := W.goto at_343 (by decide) (by decide) h
theorem s0_346 {rm : Room} {S : List Value} {H : AHeap} {Q : Option Value → AHeap → Prop} {l0 l1 l2 l3 l4 l5 l6 l7 l8 l9 l10 l11 l12 l13 l14 l15 l16 l17 l18 l19 l20 l21 l22 l23 l24 l25 : Slot}  (h : W0 rm 349 [l0, l1, l2, l3, l4, l5, l6, l7, l8, l9, l10, l11, l12, l13, l14, l15, l16, l17, l18, l19, l20, l21, l22, l23, l24, l25] (.long 9223372036854775807 :: S) (H) Q) : W0 rm 346 [l0, l1, l2, l3, l4, l5, l6, l7, l8, l9, l10, l11, l12, l13, l14, l15, l16, l17, l18, l19, l20, l21, l22, l23, l24, l25] (S) H Q := W.ldcLong at_346 (List.mem_of_getElem? (i := 64) rfl) h
theorem s0_349 {rm : Room} {S : List Value} {H : AHeap} {Q : Option Value → AHeap → Prop} {l0 l1 l2 l3 l4 l5 l6 l7 l8 l9 l10 l11 l12 l13 l14 l15 l16 l17 l18 l19 l20 l21 l22 l23 l24 l25 : Slot} {x : Int64} (ho : two l23 l24 = true) (h : W0 rm 351 [l0, l1, l2, l3, l4, l5, l6, l7, l8, l9, l10, l11, l12, l13, l14, l15, l16, l17, l18, l19, l20, l21, l22, .val (.long x), .second, l25] (S) (H) Q) : W0 rm 349 [l0, l1, l2, l3, l4, l5, l6, l7, l8, l9, l10, l11, l12, l13, l14, l15, l16, l17, l18, l19, l20, l21, l22, l23, l24, l25] (.long x :: S) H Q := W.lstore at_349 rfl rfl ho h
theorem s0_351 {rm : Room} {S : List Value} {H : AHeap} {Q : Option Value → AHeap → Prop} {l0 l1 l2 l3 l4 l5 l6 l7 l8 l9 l11 l12 l13 l14 l15 l16 l17 l18 l19 l20 l21 l22 l23 l24 l25 : Slot} {x : Int32} (h : W0 rm 353 [l0, l1, l2, l3, l4, l5, l6, l7, l8, l9, .val (.int x), l11, l12, l13, l14, l15, l16, l17, l18, l19, l20, l21, l22, l23, l24, l25] (.int x :: S) (H) Q) : W0 rm 351 [l0, l1, l2, l3, l4, l5, l6, l7, l8, l9, .val (.int x), l11, l12, l13, l14, l15, l16, l17, l18, l19, l20, l21, l22, l23, l24, l25] (S) H Q := W.iload at_351 rfl h
theorem s0_353 {rm : Room} {S : List Value} {H : AHeap} {Q : Option Value → AHeap → Prop} {l0 l1 l2 l3 l4 l5 l6 l7 l8 l9 l10 l11 l12 l13 l14 l15 l16 l17 l18 l19 l20 l21 l22 l23 l24 l25 : Slot} {x : Int32} (h1 : x = 0 → W0 rm 361 [l0, l1, l2, l3, l4, l5, l6, l7, l8, l9, l10, l11, l12, l13, l14, l15, l16, l17, l18, l19, l20, l21, l22, l23, l24, l25] S H Q) (h2 : ¬ x = 0 → W0 rm 356 [l0, l1, l2, l3, l4, l5, l6, l7, l8, l9, l10, l11, l12, l13, l14, l15, l16, l17, l18, l19, l20, l21, l22, l23, l24, l25] S H Q) : W0 rm 353 [l0, l1, l2, l3, l4, l5, l6, l7, l8, l9, l10, l11, l12, l13, l14, l15, l16, l17, l18, l19, l20, l21, l22, l23, l24, l25] (.int x :: S) H Q := W.ifc at_353 (by decide) (by decide) h1 h2
theorem s0_356 {rm : Room} {S : List Value} {H : AHeap} {Q : Option Value → AHeap → Prop} {l0 l1 l2 l3 l4 l5 l6 l7 l8 l9 l10 l11 l12 l13 l14 l15 l17 l18 l19 l20 l21 l22 l23 l24 l25 : Slot} {x : Int32} (h : W0 rm 358 [l0, l1, l2, l3, l4, l5, l6, l7, l8, l9, l10, l11, l12, l13, l14, l15, .val (.int x), l17, l18, l19, l20, l21, l22, l23, l24, l25] (.int x :: S) (H) Q) : W0 rm 356 [l0, l1, l2, l3, l4, l5, l6, l7, l8, l9, l10, l11, l12, l13, l14, l15, .val (.int x), l17, l18, l19, l20, l21, l22, l23, l24, l25] (S) H Q := W.iload at_356 rfl h
theorem s0_358 {rm : Room} {S : List Value} {H : AHeap} {Q : Option Value → AHeap → Prop} {l0 l1 l2 l3 l4 l5 l6 l7 l8 l9 l10 l11 l12 l13 l14 l15 l16 l17 l18 l19 l20 l21 l22 l23 l24 l25 : Slot}  (h : W0 rm 376 [l0, l1, l2, l3, l4, l5, l6, l7, l8, l9, l10, l11, l12, l13, l14, l15, l16, l17, l18, l19, l20, l21, l22, l23, l24, l25] (S) (H) Q) : W0 rm 358 [l0, l1, l2, l3, l4, l5, l6, l7, l8, l9, l10, l11, l12, l13, l14, l15, l16, l17, l18, l19, l20, l21, l22, l23, l24, l25] (S) H Q := W.goto at_358 (by decide) (by decide) h
theorem s0_361 {rm : Room} {S : List Value} {H : AHeap} {Q : Option Value → AHeap → Prop} {l0 l1 l2 l3 l4 l5 l6 l7 l8 l9 l10 l11 l12 l13 l14 l15 l16 l18 l19 l20 l21 l22 l23 l24 l25 : Slot} {x : Int32} (h : W0 rm 363 [l0, l1, l2, l3, l4, l5, l6, l7, l8, l9, l10, l11, l12, l13, l14, l15, l16, .val (.int x), l18, l19, l20, l21, l22, l23, l24, l25] (.int x :: S) (H) Q) : W0 rm 361 [l0, l1, l2, l3, l4, l5, l6, l7, l8, l9, l10, l11, l12, l13, l14, l15, l16, .val (.int x), l18, l19, l20, l21, l22, l23, l24, l25] (S) H Q := W.iload at_361 rfl h
theorem s0_363 {rm : Room} {S : List Value} {H : AHeap} {Q : Option Value → AHeap → Prop} {l0 l1 l2 l3 l4 l5 l6 l7 l8 l9 l10 l11 l12 l13 l14 l15 l16 l17 l18 l19 l20 l21 l22 l23 l24 l25 : Slot} {x : Int32} (h1 : ¬ x = 0 → W0 rm 371 [l0, l1, l2, l3, l4, l5, l6, l7, l8, l9, l10, l11, l12, l13, l14, l15, l16, l17, l18, l19, l20, l21, l22, l23, l24, l25] S H Q) (h2 : x = 0 → W0 rm 366 [l0, l1, l2, l3, l4, l5, l6, l7, l8, l9, l10, l11, l12, l13, l14, l15, l16, l17, l18, l19, l20, l21, l22, l23, l24, l25] S H Q) : W0 rm 363 [l0, l1, l2, l3, l4, l5, l6, l7, l8, l9, l10, l11, l12, l13, l14, l15, l16, l17, l18, l19, l20, l21, l22, l23, l24, l25] (.int x :: S) H Q := W.ifc at_363 (by decide) (by decide) h1 h2
theorem s0_366 {rm : Room} {S : List Value} {H : AHeap} {Q : Option Value → AHeap → Prop} {l0 l1 l2 l3 l4 l5 l6 l7 l8 l9 l10 l11 l12 l13 l14 l15 l16 l17 l19 l20 l21 l22 l23 l24 l25 : Slot} {x : Int32} (h : W0 rm 368 [l0, l1, l2, l3, l4, l5, l6, l7, l8, l9, l10, l11, l12, l13, l14, l15, l16, l17, .val (.int x), l19, l20, l21, l22, l23, l24, l25] (.int x :: S) (H) Q) : W0 rm 366 [l0, l1, l2, l3, l4, l5, l6, l7, l8, l9, l10, l11, l12, l13, l14, l15, l16, l17, .val (.int x), l19, l20, l21, l22, l23, l24, l25] (S) H Q := W.iload at_366 rfl h
theorem s0_368 {rm : Room} {S : List Value} {H : AHeap} {Q : Option Value → AHeap → Prop} {l0 l1 l2 l3 l4 l5 l6 l7 l8 l9 l10 l11 l12 l13 l14 l15 l16 l17 l18 l19 l20 l21 l22 l23 l24 l25 : Slot} {x : Int32} (h1 : x = 0 → W0 rm 375 [l0, l1, l2, l3, l4, l5, l6, l7, l8, l9, l10, l11, l12, l13, l14, l15, l16, l17, l18, l19, l20, l21, l22, l23, l24, l25] S H Q) (h2 : ¬ x = 0 → W0 rm 371 [l0, l1, l2, l3, l4, l5, l6, l7, l8, l9, l10, l11, l12, l13, l14, l15, l16, l17, l18, l19, l20, l21, l22, l23, l24, l25] S H Q) : W0 rm 368 [l0, l1, l2, l3, l4, l5, l6, l7, l8, l9, l10, l11, l12, l13, l14, l15, l16, l17, l18, l19, l20, l21, l22, l23, l24, l25] (.int x :: S) H Q := W.ifc at_368 (by decide) (by decide) h1 h2
theorem s0_371 {rm : Room} {S : List Value} {H : AHeap} {Q : Option Value → AHeap → Prop} {l0 l1 l2 l3 l4 l5 l6 l7 l8 l9 l10 l11 l12 l13 l14 l15 l16 l17 l18 l19 l20 l21 l22 l23 l24 l25 : Slot}  (h : W0 rm 372 [l0, l1, l2, l3, l4, l5, l6, l7, l8, l9, l10, l11, l12, l13, l14, l15, l16, l17, l18, l19, l20, l21, l22, l23, l24, l25] (.int 1 :: S) (H) Q) : W0 rm 371 [l0, l1, l2, l3, l4, l5, l6, l7, l8, l9, l10, l11, l12, l13, l14, l15, l16, l17, l18, l19, l20, l21, l22, l23, l24, l25] (S) H Q := W.iconst' at_371 (by decide) h
theorem s0_372 {rm : Room} {S : List Value} {H : AHeap} {Q : Option Value → AHeap → Prop} {l0 l1 l2 l3 l4 l5 l6 l7 l8 l9 l10 l11 l12 l13 l14 l15 l16 l17 l18 l19 l20 l21 l22 l23 l24 l25 : Slot}  (h : W0 rm 376 [l0, l1, l2, l3, l4, l5, l6, l7, l8, l9, l10, l11, l12, l13, l14, l15, l16, l17, l18, l19, l20, l21, l22, l23, l24, l25] (S) (H) Q) : W0 rm 372 [l0, l1, l2, l3, l4, l5, l6, l7, l8, l9, l10, l11, l12, l13, l14, l15, l16, l17, l18, l19, l20, l21, l22, l23, l24, l25] (S) H Q := W.goto at_372 (by decide) (by decide) h
theorem s0_375 {rm : Room} {S : List Value} {H : AHeap} {Q : Option Value → AHeap → Prop} {l0 l1 l2 l3 l4 l5 l6 l7 l8 l9 l10 l11 l12 l13 l14 l15 l16 l17 l18 l19 l20 l21 l22 l23 l24 l25 : Slot}  (h : W0 rm 376 [l0, l1, l2, l3, l4, l5, l6, l7, l8, l9, l10, l11, l12, l13, l14, l15, l16, l17, l18, l19, l20, l21, l22, l23, l24, l25] (.int 0 :: S) (H) Q) : W0 rm 375 [l0, l1, l2, l3, l4, l5, l6, l7, l8, l9, l10, l11, l12, l13, l14, l15, l16, l17, l18, l19, l20, l21, l22, l23, l24, l25] (S) H Q := W.iconst' at_375 (by decide) h
theorem s0_376 {rm : Room} {S : List Value} {H : AHeap} {Q : Option Value → AHeap → Prop} {l0 l1 l2 l3 l4 l5 l6 l7 l8 l9 l10 l11 l12 l13 l14 l15 l16 l17 l18 l19 l20 l21 l22 l23 l24 l25 : Slot} {x : Int32} (ho : one l25 = true) (h : W0 rm 378 [l0, l1, l2, l3, l4, l5, l6, l7, l8, l9, l10, l11, l12, l13, l14, l15, l16, l17, l18, l19, l20, l21, l22, l23, l24, .val (.int x)] (S) (H) Q) : W0 rm 376 [l0, l1, l2, l3, l4, l5, l6, l7, l8, l9, l10, l11, l12, l13, l14, l15, l16, l17, l18, l19, l20, l21, l22, l23, l24, l25] (.int x :: S) H Q := W.istore at_376 rfl ho h
theorem s0_376s {rm : Room} {S : List Value} {H : AHeap} {Q : Option Value → AHeap → Prop} {l0 l1 l2 l3 l4 l5 l6 l7 l8 l9 l10 l11 l12 l13 l14 l15 l16 l17 l18 l19 l20 l21 l22 l23 l24 : Slot} {x : Int32} (h : W0 rm 378 [l0, l1, l2, l3, l4, l5, l6, l7, l8, l9, l10, l11, l12, l13, l14, l15, l16, l17, l18, l19, l20, l21, l22, l23, .unset, .val (.int x)] (S) (H) Q) : W0 rm 376 [l0, l1, l2, l3, l4, l5, l6, l7, l8, l9, l10, l11, l12, l13, l14, l15, l16, l17, l18, l19, l20, l21, l22, l23, l24, .second] (.int x :: S) H Q := W.istoreS at_376 rfl (by decide) h
theorem s0_378 {rm : Room} {S : List Value} {H : AHeap} {Q : Option Value → AHeap → Prop} {l0 l1 l2 l3 l4 l5 l6 l7 l8 l9 l10 l11 l12 l13 l14 l16 l17 l18 l19 l20 l21 l22 l23 l24 l25 : Slot} {x : Int32} (h : W0 rm 380 [l0, l1, l2, l3, l4, l5, l6, l7, l8, l9, l10, l11, l12, l13, l14, .val (.int x), l16, l17, l18, l19, l20, l21, l22, l23, l24, l25] (.int x :: S) (H) Q) : W0 rm 378 [l0, l1, l2, l3, l4, l5, l6, l7, l8, l9, l10, l11, l12, l13, l14, .val (.int x), l16, l17, l18, l19, l20, l21, l22, l23, l24, l25] (S) H Q := W.iload at_378 rfl h
theorem s0_380 {rm : Room} {S : List Value} {H : AHeap} {Q : Option Value → AHeap → Prop} {l0 l1 l2 l3 l4 l5 l6 l7 l8 l9 l10 l11 l12 l13 l14 l15 l16 l17 l18 l19 l20 l21 l22 l23 l24 : Slot} {x : Int32} (h : W0 rm 382 [l0, l1, l2, l3, l4, l5, l6, l7, l8, l9, l10, l11, l12, l13, l14, l15, l16, l17, l18, l19, l20, l21, l22, l23, l24, .val (.int x)] (.int x :: S) (H) Q) : W0 rm 380 [l0, l1, l2, l3, l4, l5, l6, l7, l8, l9, l10, l11, l12, l13, l14, l15, l16, l17, l18, l19, l20, l21, l22, l23, l24, .val (.int x)] (S) H Q := W.iload at_380 rfl h
theorem s0_382 {rm : Room} {S : List Value} {H : AHeap} {Q : Option Value → AHeap → Prop} {l0 l1 l2 l3 l4 l5 l6 l7 l8 l9 l10 l11 l12 l13 l14 l15 l16 l17 l18 l19 l20 l21 l22 l23 l24 l25 : Slot} {x y : Int32} (h1 : ¬ x = y → W0 rm 428 [l0, l1, l2, l3, l4, l5, l6, l7, l8, l9, l10, l11, l12, l13, l14, l15, l16, l17, l18, l19, l20, l21, l22, l23, l24, l25] S H Q) (h2 : x = y → W0 rm 385 [l0, l1, l2, l3, l4, l5, l6, l7, l8, l9, l10, l11, l12, l13, l14, l15, l16, l17, l18, l19, l20, l21, l22, l23, l24, l25] S H Q) : W0 rm 382 [l0, l1, l2, l3, l4, l5, l6, l7, l8, l9, l10, l11, l12, l13, l14, l15, l16, l17, l18, l19, l20, l21, l22, l23, l24, l25] (.int y :: .int x :: S) H Q := W.icmp at_382 (by decide) (by decide) h1 h2
theorem s0_385 {rm : Room} {S : List Value} {H : AHeap} {Q : Option Value → AHeap → Prop} {l0 l1 l2 l3 l4 l5 l6 l7 l8 l9 l10 l11 l12 l14 l15 l16 l17 l18 l19 l20 l21 l22 l23 l24 l25 : Slot} {i : Nat} (h : W0 rm 387 [l0, l1, l2, l3, l4, l5, l6, l7, l8, l9, l10, l11, l12, .val (.ref i), l14, l15, l16, l17, l18, l19, l20, l21, l22, l23, l24, l25] (.ref i :: S) (H) Q) : W0 rm 385 [l0, l1, l2, l3, l4, l5, l6, l7, l8, l9, l10, l11, l12, .val (.ref i), l14, l15, l16, l17, l18, l19, l20, l21, l22, l23, l24, l25] (S) H Q := W.aload at_385 rfl rfl h
theorem s0_385n {rm : Room} {S : List Value} {H : AHeap} {Q : Option Value → AHeap → Prop} {l0 l1 l2 l3 l4 l5 l6 l7 l8 l9 l10 l11 l12 l14 l15 l16 l17 l18 l19 l20 l21 l22 l23 l24 l25 : Slot}  (h : W0 rm 387 [l0, l1, l2, l3, l4, l5, l6, l7, l8, l9, l10, l11, l12, .val .null, l14, l15, l16, l17, l18, l19, l20, l21, l22, l23, l24, l25] (.null :: S) (H) Q) : W0 rm 385 [l0, l1, l2, l3, l4, l5, l6, l7, l8, l9, l10, l11, l12, .val .null, l14, l15, l16, l17, l18, l19, l20, l21, l22, l23, l24, l25] (S) H Q := W.aload at_385 rfl rfl h
theorem s0_387 {rm : Room} {S : List Value} {H : AHeap} {Q : Option Value → AHeap → Prop} {l0 l1 l2 l3 l4 l5 l6 l7 l8 l9 l10 l11 l12 l13 l14 l15 l16 l17 l18 l19 l20 l21 l22 l23 l24 l25 : Slot}  (h : W0 rm 388 [l0, l1, l2, l3, l4, l5, l6, l7, l8, l9, l10, l11, l12, l13, l14, l15, l16, l17, l18, l19, l20, l21, l22, l23, l24, l25] (.int 0 :: S) (H) Q) : W0 rm 387 [l0, l1, l2, l3, l4, l5, l6, l7, l8, l9, l10, l11, l12, l13, l14, l15, l16, l17, l18, l19, l20, l21, l22, l23, l24, l25] (S) H Q := W.iconst' at_387 (by decide) h
theorem s0_388 {rm : Room} {S : List Value} {H : AHeap} {Q : Option Value → AHeap → Prop} {l0 l1 l2 l3 l4 l5 l6 l7 l8 l9 l10 l11 l12 l13 l14 l15 l16 l17 l18 l19 l20 l21 l22 l23 l24 l25 : Slot}  (h : W0 rm 389 [l0, l1, l2, l3, l4, l5, l6, l7, l8, l9, l10, l11, l12, l13, l14, l15, l16, l17, l18, l19, l20, l21, l22, l23, l24, l25] (.int 0 :: S) (H) Q) : W0 rm 388 [l0, l1, l2, l3, l4, l5, l6, l7, l8, l9, l10, l11, l12, l13, l14, l15, l16, l17, l18, l19, l20, l21, l22, l23, l24, l25] (S) H Q := W.iconst' at_388 (by decide) h
theorem s0_389 {rm : Room} {S : List Value} {H : AHeap} {Q : Option Value → AHeap → Prop} {l0 l1 l2 l3 l4 l5 l6 l7 l8 l9 l10 l11 l12 l13 l14 l15 l16 l17 l18 l19 l20 l21 l22 l23 l24 l25 : Slot} {rm' : Room} {H' : AHeap} {i : Nat} {vs : List Value} {a0 : Int32} {a1 : Int32} {r : Int64} (hH : H[i]? = some (.inl (0, vs))) (hM : M9 rm' [.ref i, .int a0, .int a1] H (Is (some (.long r)) H')) (hr : rok rm rm' 3 S = true) (h : W0 (less rm rm') 392 [l0, l1, l2, l3, l4, l5, l6, l7, l8, l9, l10, l11, l12, l13, l14, l15, l16, l17, l18, l19, l20, l21, l22, l23, l24, l25] (.long r :: S) H' Q) : W0 rm 389 [l0, l1, l2, l3, l4, l5, l6, l7, l8, l9, l10, l11, l12, l13, l14, l15, l16, l17, l18, l19, l20, l21, l22, l23, l24, l25] (.int a1 :: .int a0 :: .ref i :: S) H Q := W.callV (c := 0) (S := S) (as := [.int a0, .int a1]) (rm' := rm') at_389 (List.mem_of_getElem? (i := 65) rfl) (List.mem_of_getElem? (i := 66) rfl) (List.mem_of_getElem? (i := 68) rfl) (Or.inl rfl) kt (List.mem_of_getElem? (i := 67) rfl) (List.mem_of_getElem? (i := 3) rfl) (List.mem_of_getElem? (i := 69) rfl) (by decide) rfl pd9 rfl rfl hH hM hr (fun _ _ q => by obtain ⟨rfl, rfl⟩ := q; exact h)
theorem s0_389q {rm : Room} {S : List Value} {H : AHeap} {Q : Option Value → AHeap → Prop} {l0 l1 l2 l3 l4 l5 l6 l7 l8 l9 l10 l11 l12 l13 l14 l15 l16 l17 l18 l19 l20 l21 l22 l23 l24 l25 : Slot} {rm' : Room} {Q' : Option Value → AHeap → Prop} {i : Nat} {vs : List Value} {a0 a1 : Value} (hH : H[i]? = some (.inl (0, vs))) (hM : M9 rm' [.ref i, a0, a1] H Q') (hr : rok rm rm' 3 S = true) (h : ∀ v H', Q' v H' → W0 (less rm rm') 392 [l0, l1, l2, l3, l4, l5, l6, l7, l8, l9, l10, l11, l12, l13, l14, l15, l16, l17, l18, l19, l20, l21, l22, l23, l24, l25] (v.toList ++ S) H' Q) : W0 rm 389 [l0, l1, l2, l3, l4, l5, l6, l7, l8, l9, l10, l11, l12, l13, l14, l15, l16, l17, l18, l19, l20, l21, l22, l23, l24, l25] (a1 :: a0 :: .ref i :: S) H Q := W.callV (c := 0) (S := S) (as := [a0, a1]) (rm' := rm') at_389 (List.mem_of_getElem? (i := 65) rfl) (List.mem_of_getElem? (i := 66) rfl) (List.mem_of_getElem? (i := 68) rfl) (Or.inl rfl) kt (List.mem_of_getElem? (i := 67) rfl) (List.mem_of_getElem? (i := 3) rfl) (List.mem_of_getElem? (i := 69) rfl) (by decide) rfl pd9 rfl rfl hH hM hr h
theorem s0_392 {rm : Room} {S : List Value} {H : AHeap} {Q : Option Value → AHeap → Prop} {l0 l1 l2 l3 l4 l5 l6 l7 l8 l9 l10 l11 l12 l13 l14 l15 l16 l17 l18 l20 l21 l22 l23 l24 l25 : Slot} {x : Int64} (h : W0 rm 394 [l0, l1, l2, l3, l4, l5, l6, l7, l8, l9, l10, l11, l12, l13, l14, l15, l16, l17, l18, .val (.long x), l20, l21, l22, l23, l24, l25] (.long x :: S) (H) Q) : W0 rm 392 [l0, l1, l2, l3, l4, l5, l6, l7, l8, l9, l10, l11, l12, l13, l14, l15, l16, l17, l18, .val (.long x), l20, l21, l22, l23, l24, l25] (S) H Q := W.lload at_392 rfl h
theorem s0_395 {rm : Room} {S : List Value} {H : AHeap} {Q : Option Value → AHeap → Prop} {l0 l1 l2 l3 l4 l5 l6 l7 l8 l9 l10 l11 l12 l13 l14 l15 l16 l17 l18 l19 l20 l21 l22 l23 l24 l25 : Slot} {x : Int32} (h1 : ¬ x = 0 → W0 rm 428 [l0, l1, l2, l3, l4, l5, l6, l7, l8, l9, l10, l11, l12, l13, l14, l15, l16, l17, l18, l19, l20, l21, l22, l23, l24, l25] S H Q) (h2 : x = 0 → W0 rm 398 [l0, l1, l2, l3, l4, l5, l6, l7, l8, l9, l10, l11, l12, l13, l14, l15, l16, l17, l18, l19, l20, l21, l22, l23, l24, l25] S H Q) : W0 rm 395 [l0, l1, l2, l3, l4, l5, l6, l7, l8, l9, l10, l11, l12, l13, l14, l15, l16, l17, l18, l19, l20, l21, l22, l23, l24, l25] (.int x :: S) H Q := W.ifc at_395 (by decide) (by decide) h1 h2
theorem s0_394c {rm : Room} {S : List Value} {H : AHeap} {Q : Option Value → AHeap → Prop} {l0 l1 l2 l3 l4 l5 l6 l7 l8 l9 l10 l11 l12 l13 l14 l15 l16 l17 l18 l19 l20 l21 l22 l23 l24 l25 : Slot} {x y : Int64} (h1 : ¬ x = y → W0 rm 428 [l0, l1, l2, l3, l4, l5, l6, l7, l8, l9, l10, l11, l12, l13, l14, l15, l16, l17, l18, l19, l20, l21, l22, l23, l24, l25] S H Q) (h2 : x = y → W0 rm 398 [l0, l1, l2, l3, l4, l5, l6, l7, l8, l9, l10, l11, l12, l13, l14, l15, l16, l17, l18, l19, l20, l21, l22, l23, l24, l25] S H Q) : W0 rm 394 [l0, l1, l2, l3, l4, l5, l6, l7, l8, l9, l10, l11, l12, l13, l14, l15, l16, l17, l18, l19, l20, l21, l22, l23, l24, l25] (.long y :: .long x :: S) H Q := W.lcif at_394 rfl at_395 (by decide) (by decide) h1 h2
theorem s0_398 {rm : Room} {S : List Value} {H : AHeap} {Q : Option Value → AHeap → Prop} {l0 l1 l2 l3 l4 l5 l6 l7 l8 l9 l10 l11 l12 l14 l15 l16 l17 l18 l19 l20 l21 l22 l23 l24 l25 : Slot} {i : Nat} (h : W0 rm 400 [l0, l1, l2, l3, l4, l5, l6, l7, l8, l9, l10, l11, l12, .val (.ref i), l14, l15, l16, l17, l18, l19, l20, l21, l22, l23, l24, l25] (.ref i :: S) (H) Q) : W0 rm 398 [l0, l1, l2, l3, l4, l5, l6, l7, l8, l9, l10, l11, l12, .val (.ref i), l14, l15, l16, l17, l18, l19, l20, l21, l22, l23, l24, l25] (S) H Q := W.aload at_398 rfl rfl h
theorem s0_398n {rm : Room} {S : List Value} {H : AHeap} {Q : Option Value → AHeap → Prop} {l0 l1 l2 l3 l4 l5 l6 l7 l8 l9 l10 l11 l12 l14 l15 l16 l17 l18 l19 l20 l21 l22 l23 l24 l25 : Slot}  (h : W0 rm 400 [l0, l1, l2, l3, l4, l5, l6, l7, l8, l9, l10, l11, l12, .val .null, l14, l15, l16, l17, l18, l19, l20, l21, l22, l23, l24, l25] (.null :: S) (H) Q) : W0 rm 398 [l0, l1, l2, l3, l4, l5, l6, l7, l8, l9, l10, l11, l12, .val .null, l14, l15, l16, l17, l18, l19, l20, l21, l22, l23, l24, l25] (S) H Q := W.aload at_398 rfl rfl h
theorem s0_400 {rm : Room} {S : List Value} {H : AHeap} {Q : Option Value → AHeap → Prop} {l0 l1 l2 l3 l4 l5 l6 l7 l8 l9 l10 l11 l12 l13 l14 l15 l16 l17 l18 l19 l20 l21 l22 l23 l24 l25 : Slot}  (h : W0 rm 401 [l0, l1, l2, l3, l4, l5, l6, l7, l8, l9, l10, l11, l12, l13, l14, l15, l16, l17, l18, l19, l20, l21, l22, l23, l24, l25] (.int 1 :: S) (H) Q) : W0 rm 400 [l0, l1, l2, l3, l4, l5, l6, l7, l8, l9, l10, l11, l12, l13, l14, l15, l16, l17, l18, l19, l20, l21, l22, l23, l24, l25] (S) H Q := W.iconst' at_400 (by decide) h
theorem s0_401 {rm : Room} {S : List Value} {H : AHeap} {Q : Option Value → AHeap → Prop} {l0 l1 l2 l3 l4 l5 l6 l7 l8 l9 l10 l11 l12 l13 l14 l15 l16 l17 l18 l19 l20 l21 l22 l23 l24 l25 : Slot}  (h : W0 rm 402 [l0, l1, l2, l3, l4, l5, l6, l7, l8, l9, l10, l11, l12, l13, l14, l15, l16, l17, l18, l19, l20, l21, l22, l23, l24, l25] (.int 0 :: S) (H) Q) : W0 rm 401 [l0, l1, l2, l3, l4, l5, l6, l7, l8, l9, l10, l11, l12, l13, l14, l15, l16, l17, l18, l19, l20, l21, l22, l23, l24, l25] (S) H Q := W.iconst' at_401 (by decide) h
theorem s0_402 {rm : Room} {S : List Value} {H : AHeap} {Q : Option Value → AHeap → Prop} {l0 l1 l2 l3 l4 l5 l6 l7 l8 l9 l10 l11 l12 l13 l14 l15 l16 l17 l18 l19 l20 l21 l22 l23 l24 l25 : Slot} {rm' : Room} {H' : AHeap} {i : Nat} {vs : List Value} {a0 : Int32} {a1 : Int32} {r : Int64} (hH : H[i]? = some (.inl (0, vs))) (hM : M9 rm' [.ref i, .int a0, .int a1] H (Is (some (.long r)) H')) (hr : rok rm rm' 3 S = true) (h : W0 (less rm rm') 405 [l0, l1, l2, l3, l4, l5, l6, l7, l8, l9, l10, l11, l12, l13, l14, l15, l16, l17, l18, l19, l20, l21, l22, l23, l24, l25] (.long r :: S) H' Q) : W0 rm 402 [l0, l1, l2, l3, l4, l5, l6, l7, l8, l9, l10, l11, l12, l13, l14, l15, l16, l17, l18, l19, l20, l21, l22, l23, l24, l25] (.int a1 :: .int a0 :: .ref i :: S) H Q := W.callV (c := 0) (S := S) (as := [.int a0, .int a1]) (rm' := rm') at_402 (List.mem_of_getElem? (i := 65) rfl) (List.mem_of_getElem? (i := 66) rfl) (List.mem_of_getElem? (i := 68) rfl) (Or.inl rfl) kt (List.mem_of_getElem? (i := 67) rfl) (List.mem_of_getElem? (i := 3) rfl) (List.mem_of_getElem? (i := 69) rfl) (by decide) rfl pd9 rfl rfl hH hM hr (fun _ _ q => by obtain ⟨rfl, rfl⟩ := q; exact h)
theorem s0_402q {rm : Room} {S : List Value} {H : AHeap} {Q : Option Value → AHeap → Prop} {l0 l1 l2 l3 l4 l5 l6 l7 l8 l9 l10 l11 l12 l13 l14 l15 l16 l17 l18 l19 l20 l21 l22 l23 l24 l25 : Slot} {rm' : Room} {Q' : Option Value → AHeap → Prop} {i : Nat} {vs : List Value} {a0 a1 : Value} (hH : H[i]? = some (.inl (0, vs))) (hM : M9 rm' [.ref i, a0, a1] H Q') (hr : rok rm rm' 3 S = true) (h : ∀ v H', Q' v H' → W0 (less rm rm') 405 [l0, l1, l2, l3, l4, l5, l6, l7, l8, l9, l10, l11, l12, l13, l14, l15, l16, l17, l18, l19, l20, l21, l22, l23, l24, l25] (v.toList ++ S) H' Q) : W0 rm 402 [l0, l1, l2, l3, l4, l5, l6, l7, l8, l9, l10, l11, l12, l13, l14, l15, l16, l17, l18, l19, l20, l21, l22, l23, l24, l25] (a1 :: a0 :: .ref i :: S) H Q := W.callV (c := 0) (S := S) (as := [a0, a1]) (rm' := rm') at_402 (List.mem_of_getElem? (i := 65) rfl) (List.mem_of_getElem? (i := 66) rfl) (List.mem_of_getElem? (i := 68) rfl) (Or.inl rfl) kt (List.mem_of_getElem? (i := 67) rfl) (List.mem_of_getElem? (i := 3) rfl) (List.mem_of_getElem? (i := 69) rfl) (by decide) rfl pd9 rfl rfl hH hM hr h
theorem s0_405 {rm : Room} {S : List Value} {H : AHeap} {Q : Option Value → AHeap → Prop} {l0 l1 l2 l3 l4 l5 l6 l7 l8 l9 l10 l11 l12 l13 l14 l15 l16 l17 l18 l19 l20 l22 l23 l24 l25 : Slot} {x : Int64} (h : W0 rm 407 [l0, l1, l2, l3, l4, l5, l6, l7, l8, l9, l10, l11, l12, l13, l14, l15, l16, l17, l18, l19, l20, .val (.long x), l22, l23, l24, l25] (.long x :: S) (H) Q) : W0 rm 405 [l0, l1, l2, l3, l4, l5, l6, l7, l8, l9, l10, l11, l12, l13, l14, l15, l16, l17, l18, l19, l20, .val (.long x), l22, l23, l24, l25] (S) H Q := W.lload at_405 rfl h
theorem s0_408 {rm : Room} {S : List Value} {H : AHeap} {Q : Option Value → AHeap → Prop} {l0 l1 l2 l3 l4 l5 l6 l7 l8 l9 l10 l11 l12 l13 l14 l15 l16 l17 l18 l19 l20 l21 l22 l23 l24 l25 : Slot} {x : Int32} (h1 : ¬ x = 0 → W0 rm 428 [l0, l1, l2, l3, l4, l5, l6, l7, l8, l9, l10, l11, l12, l13, l14, l15, l16, l17, l18, l19, l20, l21, l22, l23, l24, l25] S H Q) (h2 : x = 0 → W0 rm 411 [l0, l1, l2, l3, l4, l5, l6, l7, l8, l9, l10, l11, l12, l13, l14, l15, l16, l17, l18, l19, l20, l21, l22, l23, l24, l25] S H Q) : W0 rm 408 [l0, l1, l2, l3, l4, l5, l6, l7, l8, l9, l10, l11, l12, l13, l14, l15, l16, l17, l18, l19, l20, l21, l22, l23, l24, l25] (.int x :: S) H Q := W.ifc at_408 (by decide) (by decide) h1 h2
theorem s0_407c {rm : Room} {S : List Value} {H : AHeap} {Q : Option Value → AHeap → Prop} {l0 l1 l2 l3 l4 l5 l6 l7 l8 l9 l10 l11 l12 l13 l14 l15 l16 l17 l18 l19 l20 l21 l22 l23 l24 l25 : Slot} {x y : Int64} (h1 : ¬ x = y → W0 rm 428 [l0, l1, l2, l3, l4, l5, l6, l7, l8, l9, l10, l11, l12, l13, l14, l15, l16, l17, l18, l19, l20, l21, l22, l23, l24, l25] S H Q) (h2 : x = y → W0 rm 411 [l0, l1, l2, l3, l4, l5, l6, l7, l8, l9, l10, l11, l12, l13, l14, l15, l16, l17, l18, l19, l20, l21, l22, l23, l24, l25] S H Q) : W0 rm 407 [l0, l1, l2, l3, l4, l5, l6, l7, l8, l9, l10, l11, l12, l13, l14, l15, l16, l17, l18, l19, l20, l21, l22, l23, l24, l25] (.long y :: .long x :: S) H Q := W.lcif at_407 rfl at_408 (by decide) (by decide) h1 h2
theorem s0_411 {rm : Room} {S : List Value} {H : AHeap} {Q : Option Value → AHeap → Prop} {l0 l1 l2 l3 l4 l5 l6 l7 l8 l9 l10 l11 l12 l14 l15 l16 l17 l18 l19 l20 l21 l22 l23 l24 l25 : Slot} {i : Nat} (h : W0 rm 413 [l0, l1, l2, l3, l4, l5, l6, l7, l8, l9, l10, l11, l12, .val (.ref i), l14, l15, l16, l17, l18, l19, l20, l21, l22, l23, l24, l25] (.ref i :: S) (H) Q) : W0 rm 411 [l0, l1, l2, l3, l4, l5, l6, l7, l8, l9, l10, l11, l12, .val (.ref i), l14, l15, l16, l17, l18, l19, l20, l21, l22, l23, l24, l25] (S) H Q := W.aload at_411 rfl rfl h
theorem s0_411n {rm : Room} {S : List Value} {H : AHeap} {Q : Option Value → AHeap → Prop} {l0 l1 l2 l3 l4 l5 l6 l7 l8 l9 l10 l11 l12 l14 l15 l16 l17 l18 l19 l20 l21 l22 l23 l24 l25 : Slot}  (h : W0 rm 413 [l0, l1, l2, l3, l4, l5, l6, l7, l8, l9, l10, l11, l12, .val .null, l14, l15, l16, l17, l18, l19, l20, l21, l22, l23, l24, l25] (.null :: S) (H) Q) : W0 rm 411 [l0, l1, l2, l3, l4, l5, l6, l7, l8, l9, l10, l11, l12, .val .null, l14, l15, l16, l17, l18, l19, l20, l21, l22, l23, l24, l25] (S) H Q := W.aload at_411 rfl rfl h
theorem s0_413 {rm : Room} {S : List Value} {H : AHeap} {Q : Option Value → AHeap → Prop} {l0 l1 l2 l3 l4 l5 l6 l7 l8 l9 l10 l11 l12 l13 l14 l15 l16 l17 l18 l19 l20 l21 l22 l23 l24 l25 : Slot}  (h : W0 rm 414 [l0, l1, l2, l3, l4, l5, l6, l7, l8, l9, l10, l11, l12, l13, l14, l15, l16, l17, l18, l19, l20, l21, l22, l23, l24, l25] (.int 1 :: S) (H) Q) : W0 rm 413 [l0, l1, l2, l3, l4, l5, l6, l7, l8, l9, l10, l11, l12, l13, l14, l15, l16, l17, l18, l19, l20, l21, l22, l23, l24, l25] (S) H Q := W.iconst' at_413 (by decide) h
theorem s0_414 {rm : Room} {S : List Value} {H : AHeap} {Q : Option Value → AHeap → Prop} {l0 l1 l2 l3 l4 l5 l6 l7 l8 l9 l10 l11 l12 l13 l14 l15 l16 l17 l18 l19 l20 l21 l22 l23 l24 l25 : Slot}  (h : W0 rm 415 [l0, l1, l2, l3, l4, l5, l6, l7, l8, l9, l10, l11, l12, l13, l14, l15, l16, l17, l18, l19, l20, l21, l22, l23, l24, l25] (.int 1 :: S) (H) Q) : W0 rm 414 [l0, l1, l2, l3, l4, l5, l6, l7, l8, l9, l10, l11, l12, l13, l14, l15, l16, l17, l18, l19, l20, l21, l22, l23, l24, l25] (S) H Q := W.iconst' at_414 (by decide) h
theorem s0_415 {rm : Room} {S : List Value} {H : AHeap} {Q : Option Value → AHeap → Prop} {l0 l1 l2 l3 l4 l5 l6 l7 l8 l9 l10 l11 l12 l13 l14 l15 l16 l17 l18 l19 l20 l21 l22 l23 l24 l25 : Slot} {rm' : Room} {H' : AHeap} {i : Nat} {vs : List Value} {a0 : Int32} {a1 : Int32} {r : Int64} (hH : H[i]? = some (.inl (0, vs))) (hM : M9 rm' [.ref i, .int a0, .int a1] H (Is (some (.long r)) H')) (hr : rok rm rm' 3 S = true) (h : W0 (less rm rm') 418 [l0, l1, l2, l3, l4, l5, l6, l7, l8, l9, l10, l11, l12, l13, l14, l15, l16, l17, l18, l19, l20, l21, l22, l23, l24, l25] (.long r :: S) H' Q) : W0 rm 415 [l0, l1, l2, l3, l4, l5, l6, l7, l8, l9, l10, l11, l12, l13, l14, l15, l16, l17, l18, l19, l20, l21, l22, l23, l24, l25] (.int a1 :: .int a0 :: .ref i :: S) H Q := W.callV (c := 0) (S := S) (as := [.int a0, .int a1]) (rm' := rm') at_415 (List.mem_of_getElem? (i := 65) rfl) (List.mem_of_getElem? (i := 66) rfl) (List.mem_of_getElem? (i := 68) rfl) (Or.inl rfl) kt (List.mem_of_getElem? (i := 67) rfl) (List.mem_of_getElem? (i := 3) rfl) (List.mem_of_getElem? (i := 69) rfl) (by decide) rfl pd9 rfl rfl hH hM hr (fun _ _ q => by obtain ⟨rfl, rfl⟩ := q; exact h)
theorem s0_415q {rm : Room} {S : List Value} {H : AHeap} {Q : Option Value → AHeap → Prop} {l0 l1 l2 l3 l4 l5 l6 l7 l8 l9 l10 l11 l12 l13 l14 l15 l16 l17 l18 l19 l20 l21 l22 l23 l24 l25 : Slot} {rm' : Room} {Q' : Option Value → AHeap → Prop} {i : Nat} {vs : List Value} {a0 a1 : Value} (hH : H[i]? = some (.inl (0, vs))) (hM : M9 rm' [.ref i, a0, a1] H Q') (hr : rok rm rm' 3 S = true) (h : ∀ v H', Q' v H' → W0 (less rm rm') 418 [l0, l1, l2, l3, l4, l5, l6, l7, l8, l9, l10, l11, l12, l13, l14, l15, l16, l17, l18, l19, l20, l21, l22, l23, l24, l25] (v.toList ++ S) H' Q) : W0 rm 415 [l0, l1, l2, l3, l4, l5, l6, l7, l8, l9, l10, l11, l12, l13, l14, l15, l16, l17, l18, l19, l20, l21, l22, l23, l24, l25] (a1 :: a0 :: .ref i :: S) H Q := W.callV (c := 0) (S := S) (as := [a0, a1]) (rm' := rm') at_415 (List.mem_of_getElem? (i := 65) rfl) (List.mem_of_getElem? (i := 66) rfl) (List.mem_of_getElem? (i := 68) rfl) (Or.inl rfl) kt (List.mem_of_getElem? (i := 67) rfl) (List.mem_of_getElem? (i := 3) rfl) (List.mem_of_getElem? (i := 69) rfl) (by decide) rfl pd9 rfl rfl hH hM hr h
theorem s0_418 {rm : Room} {S : List Value} {H : AHeap} {Q : Option Value → AHeap → Prop} {l0 l1 l2 l3 l4 l5 l6 l7 l8 l9 l10 l11 l12 l13 l14 l15 l16 l17 l18 l19 l20 l21 l22 l24 l25 : Slot} {x : Int64} (h : W0 rm 420 [l0, l1, l2, l3, l4, l5, l6, l7, l8, l9, l10, l11, l12, l13, l14, l15, l16, l17, l18, l19, l20, l21, l22, .val (.long x), l24, l25] (.long x :: S) (H) Q) : W0 rm 418 [l0, l1, l2, l3, l4, l5, l6, l7, l8, l9, l10, l11, l12, l13, l14, l15, l16, l17, l18, l19, l20, l21, l22, .val (.long x), l24, l25] (S) H Q := W.lload at_418 rfl h
theorem s0_421 {rm : Room} {S : List Value} {H : AHeap} {Q : Option Value → AHeap → Prop} {l0 l1 l2 l3 l4 l5 l6 l7 l8 l9 l10 l11 l12 l13 l14 l15 l16 l17 l18 l19 l20 l21 l22 l23 l24 l25 : Slot} {x : Int32} (h1 : ¬ x = 0 → W0 rm 428 [l0, l1, l2, l3, l4, l5, l6, l7, l8, l9, l10, l11, l12, l13, l14, l15, l16, l17, l18, l19, l20, l21, l22, l23, l24, l25] S H Q) (h2 : x = 0 → W0 rm 424 [l0, l1, l2, l3, l4, l5, l6, l7, l8, l9, l10, l11, l12, l13, l14, l15, l16, l17, l18, l19, l20, l21, l22, l23, l24, l25] S H Q) : W0 rm 421 [l0, l1, l2, l3, l4, l5, l6, l7, l8, l9, l10, l11, l12, l13, l14, l15, l16, l17, l18, l19, l20, l21, l22, l23, l24, l25] (.int x :: S) H Q := W.ifc at_421 (by decide) (by decide) h1 h2
theorem s0_420c {rm : Room} {S : List Value} {H : AHeap} {Q : Option Value → AHeap → Prop} {l0 l1 l2 l3 l4 l5 l6 l7 l8 l9 l10 l11 l12 l13 l14 l15 l16 l17 l18 l19 l20 l21 l22 l23 l24 l25 : Slot} {x y : Int64} (h1 : ¬ x = y → W0 rm 428 [l0, l1, l2, l3, l4, l5, l6, l7, l8, l9, l10, l11, l12, l13, l14, l15, l16, l17, l18, l19, l20, l21, l22, l23, l24, l25] S H Q) (h2 : x = y → W0 rm 424 [l0, l1, l2, l3, l4, l5, l6, l7, l8, l9, l10, l11, l12, l13, l14, l15, l16, l17, l18, l19, l20, l21, l22, l23, l24, l25] S H Q) : W0 rm 420 [l0, l1, l2, l3, l4, l5, l6, l7, l8, l9, l10, l11, l12, l13, l14, l15, l16, l17, l18, l19, l20, l21, l22, l23, l24, l25] (.long y :: .long x :: S) H Q := W.lcif at_420 rfl at_421 (by decide) (by decide) h1 h2
theorem s0_424 {rm : Room} {S : List Value} {H : AHeap} {Q : Option Value → AHeap → Prop} {l0 l1 l2 l3 l4 l5 l6 l7 l8 l9 l10 l11 l12 l13 l14 l15 l16 l17 l18 l19 l20 l21 l22 l23 l24 l25 : Slot}  (h : W0 rm 425 [l0, l1, l2, l3, l4, l5, l6, l7, l8, l9, l10, l11, l12, l13, l14, l15, l16, l17, l18, l19, l20, l21, l22, l23, l24, l25] (.int 1 :: S) (H) Q) : W0 rm 424 [l0, l1, l2, l3, l4, l5, l6, l7, l8, l9, l10, l11, l12, l13, l14, l15, l16, l17, l18, l19, l20, l21, l22, l23, l24, l25] (S) H Q := W.iconst' at_424 (by decide) h
theorem s0_425 {rm : Room} {S : List Value} {H : AHeap} {Q : Option Value → AHeap → Prop} {l0 l1 l2 l3 l4 l5 l6 l7 l8 l9 l10 l11 l12 l13 l14 l15 l16 l17 l18 l19 l20 l21 l22 l23 l24 l25 : Slot}  (h : W0 rm 429 [l0, l1, l2, l3, l4, l5, l6, l7, l8, l9, l10, l11, l12, l13, l14, l15, l16, l17, l18, l19, l20, l21, l22, l23, l24, l25] (S) (H) Q) : W0 rm 425 [l0, l1, l2, l3, l4, l5, l6, l7, l8, l9, l10, l11, l12, l13, l14, l15, l16, l17, l18, l19, l20, l21, l22, l23, l24, l25] (S) H Q := W.goto at_425 (by decide) (by decide) h
theorem s0_428 {rm : Room} {S : List Value} {H : AHeap} {Q : Option Value → AHeap → Prop} {l0 l1 l2 l3 l4 l5 l6 l7 l8 l9 l10 l11 l12 l13 l14 l15 l16 l17 l18 l19 l20 l21 l22 l23 l24 l25 : Slot}  (h : W0 rm 429 [l0, l1, l2, l3, l4, l5, l6, l7, l8, l9, l10, l11, l12, l13, l14, l15, l16, l17, l18, l19, l20, l21, l22, l23, l24, l25] (.int 0 :: S) (H) Q) : W0 rm 428 [l0, l1, l2, l3, l4, l5, l6, l7, l8, l9, l10, l11, l12, l13, l14, l15, l16, l17, l18, l19, l20, l21, l22, l23, l24, l25] (S) H Q := W.iconst' at_428 (by decide) h
theorem s0_429 {rm : Room} {S : List Value} {H : AHeap} {Q : Option Value → AHeap → Prop} {l0 l1 l2 l3 l4 l5 l6 l7 l8 l9 l10 l11 l12 l13 l14 l15 l16 l17 l18 l19 l20 l21 l22 l23 l24 l25 : Slot} {x : Int32} (hQ : Q (some (.int (x &&& 1))) H) : W0 rm 429 [l0, l1, l2, l3, l4, l5, l6, l7, l8, l9, l10, l11, l12, l13, l14, l15, l16, l17, l18, l19, l20, l21, l22, l23, l24, l25] (.int x :: S) H Q := W.ireturnZ at_429 rfl hQ
theorem e1 {rm : Room} {H : AHeap} {Q : Option Value → AHeap → Prop} {a0 : Nat} {a1 : Nat} {a2 : Nat} {a3 : Int64} (h : W1 rm 0 [.val (.ref a0), .val (.ref a1), .val (.ref a2), .val (.long a3), .second, .unset, .unset] [] H Q) : M1 rm [.ref a0, .ref a1, .ref a2, .long a3] H Q := M.of pf1 rfl rfl h
theorem e1L {rm : Room} {H : AHeap} {Q : Option Value → AHeap → Prop} {L : List Slot} {as : List Value} (h : W1 rm 0 L [] H Q) (hl : ent as ++ List.replicate (7 - (ent as).length) .unset = L := by rfl) (hn : L.length = 7 := by rfl) : M1 rm as H Q := M.of pf1 hl hn h
theorem d1_0 : decode prog_40_method_1_code 0 = .ok (.aload_n 0, 1) := by decide +kernel
theorem s1_0 {rm : Room} {S : List Value} {H : AHeap} {Q : Option Value → AHeap → Prop} {l1 l2 l3 l4 l5 l6 : Slot} {i : Nat} (h : W1 rm 1 [.val (.ref i), l1, l2, l3, l4, l5, l6] (.ref i :: S) (H) Q) : W1 rm 0 [.val (.ref i), l1, l2, l3, l4, l5, l6] (S) H Q := W.aload_n d1_0 rfl rfl h
theorem s1_0n {rm : Room} {S : List Value} {H : AHeap} {Q : Option Value → AHeap → Prop} {l1 l2 l3 l4 l5 l6 : Slot}  (h : W1 rm 1 [.val .null, l1, l2, l3, l4, l5, l6] (.null :: S) (H) Q) : W1 rm 0 [.val .null, l1, l2, l3, l4, l5, l6] (S) H Q := W.aload_n d1_0 rfl rfl h
theorem d1_1 : decode prog_40_method_1_code 1 = .ok (.aload_n 1, 1) := by decide +kernel
theorem s1_1 {rm : Room} {S : List Value} {H : AHeap} {Q : Option Value → AHeap → Prop} {l0 l2 l3 l4 l5 l6 : Slot} {i : Nat} (h : W1 rm 2 [l0, .val (.ref i), l2, l3, l4, l5, l6] (.ref i :: S) (H) Q) : W1 rm 1 [l0, .val (.ref i), l2, l3, l4, l5, l6] (S) H Q := W.aload_n d1_1 rfl rfl h
theorem s1_1n {rm : Room} {S : List Value} {H : AHeap} {Q : Option Value → AHeap → Prop} {l0 l2 l3 l4 l5 l6 : Slot}  (h : W1 rm 2 [l0, .val .null, l2, l3, l4, l5, l6] (.null :: S) (H) Q) : W1 rm 1 [l0, .val .null, l2, l3, l4, l5, l6] (S) H Q := W.aload_n d1_1 rfl rfl h
theorem d1_2 : decode prog_40_method_1_code 2 = .ok (.aload_n 2, 1) := by decide +kernel
theorem s1_2 {rm : Room} {S : List Value} {H : AHeap} {Q : Option Value → AHeap → Prop} {l0 l1 l3 l4 l5 l6 : Slot} {i : Nat} (h : W1 rm 3 [l0, l1, .val (.ref i), l3, l4, l5, l6] (.ref i :: S) (H) Q) : W1 rm 2 [l0, l1, .val (.ref i), l3, l4, l5, l6] (S) H Q := W.aload_n d1_2 rfl rfl h
theorem s1_2n {rm : Room} {S : List Value} {H : AHeap} {Q : Option Value → AHeap → Prop} {l0 l1 l3 l4 l5 l6 : Slot}  (h : W1 rm 3 [l0, l1, .val .null, l3, l4, l5, l6] (.null :: S) (H) Q) : W1 rm 2 [l0, l1, .val .null, l3, l4, l5, l6] (S) H Q := W.aload_n d1_2 rfl rfl h
theorem d1_3 : decode prog_40_method_1_code 3 = .ok (.invokespecial 3, 3) := by decide +kernel
theorem s1_3 {rm : Room} {S : List Value} {H : AHeap} {Q : Option Value → AHeap → Prop} {l0 l1 l2 l3 l4 l5 l6 : Slot} {rm' : Room} {H' : AHeap} {i : Nat} {a0 : Nat} {a1 : Nat}  (hM : M2 rm' [.ref i, .ref a0, .ref a1] H (Is none H')) (hr : rok rm rm' 4 S = true) (h : W1 (less rm rm') 6 [l0, l1, l2, l3, l4, l5, l6] (S) H' Q) : W1 rm 3 [l0, l1, l2, l3, l4, l5, l6] (.ref a1 :: .ref a0 :: .ref i :: S) H Q := W.callI (S := S) (as := [.ref a0, .ref a1]) (rm' := rm') d1_3 rfl rfl (List.mem_of_getElem? (i := 7) rfl) (List.mem_of_getElem? (i := 8) rfl) (List.mem_of_getElem? (i := 10) rfl) (List.mem_of_getElem? (i := 11) rfl) (by decide) pd2 rfl rfl hM hr (fun _ _ q => by obtain ⟨rfl, rfl⟩ := q; exact h)
theorem s1_3q {rm : Room} {S : List Value} {H : AHeap} {Q : Option Value → AHeap → Prop} {l0 l1 l2 l3 l4 l5 l6 : Slot} {rm' : Room} {Q' : Option Value → AHeap → Prop} {i : Nat} {a0 a1 : Value} (hM : M2 rm' [.ref i, a0, a1] H Q') (hr : rok rm rm' 4 S = true) (h : ∀ v H', Q' v H' → W1 (less rm rm') 6 [l0, l1, l2, l3, l4, l5, l6] (v.toList ++ S) H' Q) : W1 rm 3 [l0, l1, l2, l3, l4, l5, l6] (a1 :: a0 :: .ref i :: S) H Q := W.callI (S := S) (as := [a0, a1]) (rm' := rm') d1_3 rfl rfl (List.mem_of_getElem? (i := 7) rfl) (List.mem_of_getElem? (i := 8) rfl) (List.mem_of_getElem? (i := 10) rfl) (List.mem_of_getElem? (i := 11) rfl) (by decide) pd2 rfl rfl hM hr h
theorem d1_6 : decode prog_40_method_1_code 6 = .ok (.aload_n 0, 1) := by decide +kernel
theorem s1_6 {rm : Room} {S : List Value} {H : AHeap} {Q : Option Value → AHeap → Prop} {l1 l2 l3 l4 l5 l6 : Slot} {i : Nat} (h : W1 rm 7 [.val (.ref i), l1, l2, l3, l4, l5, l6] (.ref i :: S) (H) Q) : W1 rm 6 [.val (.ref i), l1, l2, l3, l4, l5, l6] (S) H Q := W.aload_n d1_6 rfl rfl h
theorem s1_6n {rm : Room} {S : List Value} {H : AHeap} {Q : Option Value → AHeap → Prop} {l1 l2 l3 l4 l5 l6 : Slot}  (h : W1 rm 7 [.val .null, l1, l2, l3, l4, l5, l6] (.null :: S) (H) Q) : W1 rm 6 [.val .null, l1, l2, l3, l4, l5, l6] (S) H Q := W.aload_n d1_6 rfl rfl h
theorem d1_7 : decode prog_40_method_1_code 7 = .ok (.lload_n 3, 1) := by decide +kernel
theorem s1_7 {rm : Room} {S : List Value} {H : AHeap} {Q : Option Value → AHeap → Prop} {l0 l1 l2 l4 l5 l6 : Slot} {x : Int64} (h : W1 rm 8 [l0, l1, l2, .val (.long x), l4, l5, l6] (.long x :: S) (H) Q) : W1 rm 7 [l0, l1, l2, .val (.long x), l4, l5, l6] (S) H Q := W.lload_n d1_7 rfl h
theorem d1_8 : decode prog_40_method_1_code 8 = .ok (.putfield 9, 3) := by decide +kernel
theorem s1_8 {rm : Room} {S : List Value} {H : AHeap} {Q : Option Value → AHeap → Prop} {l0 l1 l2 l3 l4 l5 l6 : Slot} {i : Nat} {f0 f1 f2 f3 f4 f5 f6 f7 f8 : Value} {x : Int64} (hH : H[i]? = some (.inl (0, [f0, f1, f2, f3, f4, f5, f6, f7, f8]))) (h : W1 rm 11 [l0, l1, l2, l3, l4, l5, l6] (S) (H.set i (.inl (0, [f0, f1, f2, f3, .long x, f5, f6, f7, f8]))) Q) : W1 rm 8 [l0, l1, l2, l3, l4, l5, l6] (.long x :: .ref i :: S) H Q := W.putF (c := 0) (j := 4) kt d1_8 (host := "") (Or.inl (List.mem_of_getElem? (i := 24) rfl)) (Or.inl rfl) rfl rfl (Or.inr ⟨(List.mem_of_getElem? (i := 25) rfl), rfl, rfl⟩) rfl rfl hH h
theorem d1_11 : decode prog_40_method_1_code 11 = .ok (.aload_n 0, 1) := by decide +kernel
theorem s1_11 {rm : Room} {S : List Value} {H : AHeap} {Q : Option Value → AHeap → Prop} {l1 l2 l3 l4 l5 l6 : Slot} {i : Nat} (h : W1 rm 12 [.val (.ref i), l1, l2, l3, l4, l5, l6] (.ref i :: S) (H) Q) : W1 rm 11 [.val (.ref i), l1, l2, l3, l4, l5, l6] (S) H Q := W.aload_n d1_11 rfl rfl h
theorem s1_11n {rm : Room} {S : List Value} {H : AHeap} {Q : Option Value → AHeap → Prop} {l1 l2 l3 l4 l5 l6 : Slot}  (h : W1 rm 12 [.val .null, l1, l2, l3, l4, l5, l6] (.null :: S) (H) Q) : W1 rm 11 [.val .null, l1, l2, l3, l4, l5, l6] (S) H Q := W.aload_n d1_11 rfl rfl h
theorem d1_12 : decode prog_40_method_1_code 12 = .ok (.aload_n 1, 1) := by decide +kernel
theorem s1_12 {rm : Room} {S : List Value} {H : AHeap} {Q : Option Value → AHeap → Prop} {l0 l2 l3 l4 l5 l6 : Slot} {i : Nat} (h : W1 rm 13 [l0, .val (.ref i), l2, l3, l4, l5, l6] (.ref i :: S) (H) Q) : W1 rm 12 [l0, .val (.ref i), l2, l3, l4, l5, l6] (S) H Q := W.aload_n d1_12 rfl rfl h
theorem s1_12n {rm : Room} {S : List Value} {H : AHeap} {Q : Option Value → AHeap → Prop} {l0 l2 l3 l4 l5 l6 : Slot}  (h : W1 rm 13 [l0, .val .null, l2, l3, l4, l5, l6] (.null :: S) (H) Q) : W1 rm 12 [l0, .val .null, l2, l3, l4, l5, l6] (S) H Q := W.aload_n d1_12 rfl rfl h
theorem d1_13 : decode prog_40_method_1_code 13 = .ok (.arraylength, 1) := by decide +kernel
theorem s1_13 {rm : Room} {S : List Value} {H : AHeap} {Q : Option Value → AHeap → Prop} {l0 l1 l2 l3 l4 l5 l6 : Slot} {i : Nat} {ty : FieldType} {vs : List Value} (hH : H[i]? = some (.inr (ty, vs))) (h : W1 rm 14 [l0, l1, l2, l3, l4, l5, l6] (.int (Int32.ofNat vs.length) :: S) (H) Q) : W1 rm 13 [l0, l1, l2, l3, l4, l5, l6] (.ref i :: S) H Q := W.arraylength d1_13 hH h
theorem s1_13k {rm : Room} {S : List Value} {H : AHeap} {Q : Option Value → AHeap → Prop} {l0 l1 l2 l3 l4 l5 l6 : Slot} {i : Nat} {ty : FieldType} {vs : List Value} (n : Int32) (hH : H[i]? = some (.inr (ty, vs))) (hn : Int32.ofNat vs.length = n) (h : W1 rm 14 [l0, l1, l2, l3, l4, l5, l6] (.int n :: S) (H) Q) : W1 rm 13 [l0, l1, l2, l3, l4, l5, l6] (.ref i :: S) H Q := W.arraylength d1_13 hH (by rw [hn]; exact h)
theorem d1_14 : decode prog_40_method_1_code 14 = .ok (.newarray .int, 2) := by decide +kernel
theorem s1_14 {rm : Room} {S : List Value} {H : AHeap} {Q : Option Value → AHeap → Prop} {l0 l1 l2 l3 l4 l5 l6 : Slot} {n : Int32} (i N : Nat) (hn : ix n N) (hi : H.length = i) (hr : nok rm N = true) (h : W1 ⟨rm.frames, rm.cells - 1, rm.slots - N, rm.locals⟩ 16 [l0, l1, l2, l3, l4, l5, l6] (.ref i :: S) (H ++ [.inr (.int, List.replicate N (.int 0))]) Q) : W1 rm 14 [l0, l1, l2, l3, l4, l5, l6] (.int n :: S) H Q := W.newarray (ty := .int) (d := .int 0) d1_14 rfl (List.mem_of_getElem? (i := 0) rfl) rfl hn hi hr h
theorem d1_16 : decode prog_40_method_1_code 16 = .ok (.putfield 15, 3) := by decide +kernel
theorem s1_16 {rm : Room} {S : List Value} {H : AHeap} {Q : Option Value → AHeap → Prop} {l0 l1 l2 l3 l4 l5 l6 : Slot} {i : Nat} {f0 f1 f2 f3 f4 f5 f6 f7 f8 : Value} {x : Nat} (hH : H[i]? = some (.inl (0, [f0, f1, f2, f3, f4, f5, f6, f7, f8]))) (h : W1 rm 19 [l0, l1, l2, l3, l4, l5, l6] (S) (H.set i (.inl (0, [f0, f1, f2, f3, f4, .ref x, f6, f7, f8]))) Q) : W1 rm 16 [l0, l1, l2, l3, l4, l5, l6] (.ref x :: .ref i :: S) H Q := W.putF (c := 0) (j := 5) kt d1_16 (host := "") (Or.inl (List.mem_of_getElem? (i := 26) rfl)) (Or.inl rfl) rfl rfl (Or.inr ⟨(List.mem_of_getElem? (i := 27) rfl), rfl, rfl⟩) rfl rfl hH h
theorem d1_19 : decode prog_40_method_1_code 19 = .ok (.iconst 0, 1) := by decide +kernel
theorem s1_19 {rm : Room} {S : List Value} {H : AHeap} {Q : Option Value → AHeap → Prop} {l0 l1 l2 l3 l4 l5 l6 : Slot}  (h : W1 rm 20 [l0, l1, l2, l3, l4, l5, l6] (.int 0 :: S) (H) Q) : W1 rm 19 [l0, l1, l2, l3, l4, l5, l6] (S) H Q := W.iconst' d1_19 (by decide) h
theorem d1_20 : decode prog_40_method_1_code 20 = .ok (.istore 5, 2) := by decide +kernel
theorem s1_20 {rm : Room} {S : List Value} {H : AHeap} {Q : Option Value → AHeap → Prop} {l0 l1 l2 l3 l4 l5 l6 : Slot} {x : Int32} (ho : one l5 = true) (h : W1 rm 22 [l0, l1, l2, l3, l4, .val (.int x), l6] (S) (H) Q) : W1 rm 20 [l0, l1, l2, l3, l4, l5, l6] (.int x :: S) H Q := W.istore d1_20 rfl ho h
theorem s1_20w {rm : Room} {S : List Value} {H : AHeap} {Q : Option Value → AHeap → Prop} {l0 l1 l2 l3 l4 l6 : Slot} {w : Value} {x : Int32} (ho : w.category = 2) (h : W1 rm 22 [l0, l1, l2, l3, l4, .val (.int x), .unset] (S) (H) Q) : W1 rm 20 [l0, l1, l2, l3, l4, .val w, l6] (.int x :: S) H Q := W.istoreW d1_20 rfl ho (Nat.le_of_ble_eq_true rfl) h
theorem s1_20s {rm : Room} {S : List Value} {H : AHeap} {Q : Option Value → AHeap → Prop} {l0 l1 l2 l3 l4 l6 : Slot} {x : Int32} (h : W1 rm 22 [l0, l1, l2, l3, .unset, .val (.int x), l6] (S) (H) Q) : W1 rm 20 [l0, l1, l2, l3, l4, .second, l6] (.int x :: S) H Q := W.istoreS d1_20 rfl (by decide) h
theorem d1_22 : decode prog_40_method_1_code 22 = .ok (.iconst 0, 1) := by decide +kernel
theorem s1_22 {rm : Room} {S : List Value} {H : AHeap} {Q : Option Value → AHeap → Prop} {l0 l1 l2 l3 l4 l5 l6 : Slot}  (h : W1 rm 23 [l0, l1, l2, l3, l4, l5, l6] (.int 0 :: S) (H) Q) : W1 rm 22 [l0, l1, l2, l3, l4, l5, l6] (S) H Q := W.iconst' d1_22 (by decide) h
theorem d1_23 : decode prog_40_method_1_code 23 = .ok (.istore 6, 2) := by decide +kernel
theorem s1_23 {rm : Room} {S : List Value} {H : AHeap} {Q : Option Value → AHeap → Prop} {l0 l1 l2 l3 l4 l5 l6 : Slot} {x : Int32} (ho : one l6 = true) (h : W1 rm 25 [l0, l1, l2, l3, l4, l5, .val (.int x)] (S) (H) Q) : W1 rm 23 [l0, l1, l2, l3, l4, l5, l6] (.int x :: S) H Q := W.istore d1_23 rfl ho h
theorem s1_23s {rm : Room} {S : List Value} {H : AHeap} {Q : Option Value → AHeap → Prop} {l0 l1 l2 l3 l4 l5 : Slot} {x : Int32} (h : W1 rm 25 [l0, l1, l2, l3, l4, .unset, .val (.int x)] (S) (H) Q) : W1 rm 23 [l0, l1, l2, l3, l4, l5, .second] (.int x :: S) H Q := W.istoreS d1_23 rfl (by decide) h
theorem d1_25 : decode prog_40_method_1_code 25 = .ok (.iload 6, 2) := by decide +kernel
theorem s1_25 {rm : Room} {S : List Value} {H : AHeap} {Q : Option Value → AHeap → Prop} {l0 l1 l2 l3 l4 l5 : Slot} {x : Int32} (h : W1 rm 27 [l0, l1, l2, l3, l4, l5, .val (.int x)] (.int x :: S) (H) Q) : W1 rm 25 [l0, l1, l2, l3, l4, l5, .val (.int x)] (S) H Q := W.iload d1_25 rfl h
theorem d1_27 : decode prog_40_method_1_code 27 = .ok (.aload_n 1, 1) := by decide +kernel
theorem s1_27 {rm : Room} {S : List Value} {H : AHeap} {Q : Option Value → AHeap → Prop} {l0 l2 l3 l4 l5 l6 : Slot} {i : Nat} (h : W1 rm 28 [l0, .val (.ref i), l2, l3, l4, l5, l6] (.ref i :: S) (H) Q) : W1 rm 27 [l0, .val (.ref i), l2, l3, l4, l5, l6] (S) H Q := W.aload_n d1_27 rfl rfl h
theorem s1_27n {rm : Room} {S : List Value} {H : AHeap} {Q : Option Value → AHeap → Prop} {l0 l2 l3 l4 l5 l6 : Slot}  (h : W1 rm 28 [l0, .val .null, l2, l3, l4, l5, l6] (.null :: S) (H) Q) : W1 rm 27 [l0, .val .null, l2, l3, l4, l5, l6] (S) H Q := W.aload_n d1_27 rfl rfl h
theorem d1_28 : decode prog_40_method_1_code 28 = .ok (.arraylength, 1) := by decide +kernel
theorem s1_28 {rm : Room} {S : List Value} {H : AHeap} {Q : Option Value → AHeap → Prop} {l0 l1 l2 l3 l4 l5 l6 : Slot} {i : Nat} {ty : FieldType} {vs : List Value} (hH : H[i]? = some (.inr (ty, vs))) (h : W1 rm 29 [l0, l1, l2, l3, l4, l5, l6] (.int (Int32.ofNat vs.length) :: S) (H) Q) : W1 rm 28 [l0, l1, l2, l3, l4, l5, l6] (.ref i :: S) H Q := W.arraylength d1_28 hH h
theorem s1_28k {rm : Room} {S : List Value} {H : AHeap} {Q : Option Value → AHeap → Prop} {l0 l1 l2 l3 l4 l5 l6 : Slot} {i : Nat} {ty : FieldType} {vs : List Value} (n : Int32) (hH : H[i]? = some (.inr (ty, vs))) (hn : Int32.ofNat vs.length = n) (h : W1 rm 29 [l0, l1, l2, l3, l4, l5, l6] (.int n :: S) (H) Q) : W1 rm 28 [l0, l1, l2, l3, l4, l5, l6] (.ref i :: S) H Q := W.arraylength d1_28 hH (by rw [hn]; exact h)
theorem d1_29 : decode prog_40_method_1_code 29 = .ok (.if_icmp .ge 30, 3) := by decide +kernel
theorem s1_29 {rm : Room} {S : List Value} {H : AHeap} {Q : Option Value → AHeap → Prop} {l0 l1 l2 l3 l4 l5 l6 : Slot} {x y : Int32} (h1 : ¬ x < y → W1 rm 59 [l0, l1, l2, l3, l4, l5, l6] S H Q) (h2 : x < y → W1 rm 32 [l0, l1, l2, l3, l4, l5, l6] S H Q) : W1 rm 29 [l0, l1, l2, l3, l4, l5, l6] (.int y :: .int x :: S) H Q := W.icmp d1_29 (by decide) (by decide) h1 h2
theorem d1_32 : decode prog_40_method_1_code 32 = .ok (.aload_n 0, 1) := by decide +kernel
theorem s1_32 {rm : Room} {S : List Value} {H : AHeap} {Q : Option Value → AHeap → Prop} {l1 l2 l3 l4 l5 l6 : Slot} {i : Nat} (h : W1 rm 33 [.val (.ref i), l1, l2, l3, l4, l5, l6] (.ref i :: S) (H) Q) : W1 rm 32 [.val (.ref i), l1, l2, l3, l4, l5, l6] (S) H Q := W.aload_n d1_32 rfl rfl h
theorem s1_32n {rm : Room} {S : List Value} {H : AHeap} {Q : Option Value → AHeap → Prop} {l1 l2 l3 l4 l5 l6 : Slot}  (h : W1 rm 33 [.val .null, l1, l2, l3, l4, l5, l6] (.null :: S) (H) Q) : W1 rm 32 [.val .null, l1, l2, l3, l4, l5, l6] (S) H Q := W.aload_n d1_32 rfl rfl h
theorem d1_33 : decode prog_40_method_1_code 33 = .ok (.getfield 15, 3) := by decide +kernel
theorem s1_33 {rm : Room} {S : List Value} {H : AHeap} {Q : Option Value → AHeap → Prop} {l0 l1 l2 l3 l4 l5 l6 : Slot} {i : Nat} {f0 f1 f2 f3 f4 f5 f6 f7 f8 : Value} (hH : H[i]? = some (.inl (0, [f0, f1, f2, f3, f4, f5, f6, f7, f8]))) (h : W1 rm 36 [l0, l1, l2, l3, l4, l5, l6] (f5 :: S) (H) Q) : W1 rm 33 [l0, l1, l2, l3, l4, l5, l6] (.ref i :: S) H Q := W.getF (c := 0) (j := 5) d1_33 (host := "") (Or.inl (List.mem_of_getElem? (i := 26) rfl)) (Or.inl rfl) rfl rfl hH rfl h
theorem d1_36 : decode prog_40_method_1_code 36 = .ok (.iload 6, 2) := by decide +kernel
theorem s1_36 {rm : Room} {S : List Value} {H : AHeap} {Q : Option Value → AHeap → Prop} {l0 l1 l2 l3 l4 l5 : Slot} {x : Int32} (h : W1 rm 38 [l0, l1, l2, l3, l4, l5, .val (.int x)] (.int x :: S) (H) Q) : W1 rm 36 [l0, l1, l2, l3, l4, l5, .val (.int x)] (S) H Q := W.iload d1_36 rfl h
theorem d1_38 : decode prog_40_method_1_code 38 = .ok (.iload 5, 2) := by decide +kernel
theorem s1_38 {rm : Room} {S : List Value} {H : AHeap} {Q : Option Value → AHeap → Prop} {l0 l1 l2 l3 l4 l6 : Slot} {x : Int32} (h : W1 rm 40 [l0, l1, l2, l3, l4, .val (.int x), l6] (.int x :: S) (H) Q) : W1 rm 38 [l0, l1, l2, l3, l4, .val (.int x), l6] (S) H Q := W.iload d1_38 rfl h
theorem d1_40 : decode prog_40_method_1_code 40 = .ok (.iastore, 1) := by decide +kernel
theorem s1_40 {rm : Room} {S : List Value} {H : AHeap} {Q : Option Value → AHeap → Prop} {l0 l1 l2 l3 l4 l5 l6 : Slot} {i : Nat} {j : Int32} {x : Int32} {vs : List Value} (N : Nat) (hH : H[i]? = some (.inr (.int, vs))) (hj : ix j N) (hl : Nat.blt N vs.length = true) (h : W1 rm 41 [l0, l1, l2, l3, l4, l5, l6] (S) (H.set i (.inr (.int, vs.set N (.int x)))) Q) : W1 rm 40 [l0, l1, l2, l3, l4, l5, l6] (.int x :: .int j :: .ref i :: S) H Q := W.iastore d1_40 hH hj hl h
theorem d1_41 : decode prog_40_method_1_code 41 = .ok (.iload 5, 2) := by decide +kernel
theorem s1_41 {rm : Room} {S : List Value} {H : AHeap} {Q : Option Value → AHeap → Prop} {l0 l1 l2 l3 l4 l6 : Slot} {x : Int32} (h : W1 rm 43 [l0, l1, l2, l3, l4, .val (.int x), l6] (.int x :: S) (H) Q) : W1 rm 41 [l0, l1, l2, l3, l4, .val (.int x), l6] (S) H Q := W.iload d1_41 rfl h
theorem d1_43 : decode prog_40_method_1_code 43 = .ok (.aload_n 0, 1) := by decide +kernel
theorem s1_43 {rm : Room} {S : List Value} {H : AHeap} {Q : Option Value → AHeap → Prop} {l1 l2 l3 l4 l5 l6 : Slot} {i : Nat} (h : W1 rm 44 [.val (.ref i), l1, l2, l3, l4, l5, l6] (.ref i :: S) (H) Q) : W1 rm 43 [.val (.ref i), l1, l2, l3, l4, l5, l6] (S) H Q := W.aload_n d1_43 rfl rfl h
theorem s1_43n {rm : Room} {S : List Value} {H : AHeap} {Q : Option Value → AHeap → Prop} {l1 l2 l3 l4 l5 l6 : Slot}  (h : W1 rm 44 [.val .null, l1, l2, l3, l4, l5, l6] (.null :: S) (H) Q) : W1 rm 43 [.val .null, l1, l2, l3, l4, l5, l6] (S) H Q := W.aload_n d1_43 rfl rfl h
theorem d1_44 : decode prog_40_method_1_code 44 = .ok (.getfield 19, 3) := by decide +kernel
theorem s1_44 {rm : Room} {S : List Value} {H : AHeap} {Q : Option Value → AHeap → Prop} {l0 l1 l2 l3 l4 l5 l6 : Slot} {i : Nat} {f0 f1 f2 f3 f4 f5 f6 f7 f8 : Value} (hH : H[i]? = some (.inl (0, [f0, f1, f2, f3, f4, f5, f6, f7, f8]))) (h : W1 rm 47 [l0, l1, l2, l3, l4, l5, l6] (f3 :: S) (H) Q) : W1 rm 44 [l0, l1, l2, l3, l4, l5, l6] (.ref i :: S) H Q := W.getF (c := 0) (j := 3) d1_44 (host := "") (Or.inl (List.mem_of_getElem? (i := 28) rfl)) (Or.inr (List.mem_of_getElem? (i := 29) rfl)) rfl rfl hH rfl h
theorem d1_47 : decode prog_40_method_1_code 47 = .ok (.iload 6, 2) := by decide +kernel
theorem s1_47 {rm : Room} {S : List Value} {H : AHeap} {Q : Option Value → AHeap → Prop} {l0 l1 l2 l3 l4 l5 : Slot} {x : Int32} (h : W1 rm 49 [l0, l1, l2, l3, l4, l5, .val (.int x)] (.int x :: S) (H) Q) : W1 rm 47 [l0, l1, l2, l3, l4, l5, .val (.int x)] (S) H Q := W.iload d1_47 rfl h
theorem d1_49 : decode prog_40_method_1_code 49 = .ok (.iaload, 1) := by decide +kernel
theorem s1_49 {rm : Room} {S : List Value} {H : AHeap} {Q : Option Value → AHeap → Prop} {l0 l1 l2 l3 l4 l5 l6 : Slot} {i : Nat} {j : Int32} {vs : List Value} {v : Value} (N : Nat) (hH : H[i]? = some (.inr (.int, vs))) (hj : ix j N) (hv : vs[N]? = some v) (h : W1 rm 50 [l0, l1, l2, l3, l4, l5, l6] (v :: S) (H) Q) : W1 rm 49 [l0, l1, l2, l3, l4, l5, l6] (.int j :: .ref i :: S) H Q := W.xaload (Or.inl ⟨rfl, rfl⟩) d1_49 hH hj hv h
theorem d1_50 : decode prog_40_method_1_code 50 = .ok (.iadd, 1) := by decide +kernel
theorem s1_50 {rm : Room} {S : List Value} {H : AHeap} {Q : Option Value → AHeap → Prop} {l0 l1 l2 l3 l4 l5 l6 : Slot} {x y : Int32} (h : W1 rm 51 [l0, l1, l2, l3, l4, l5, l6] (.int (x + y) :: S) (H) Q) : W1 rm 50 [l0, l1, l2, l3, l4, l5, l6] (.int y :: .int x :: S) H Q := W.iadd d1_50 h
theorem d1_51 : decode prog_40_method_1_code 51 = .ok (.istore 5, 2) := by decide +kernel
theorem s1_51 {rm : Room} {S : List Value} {H : AHeap} {Q : Option Value → AHeap → Prop} {l0 l1 l2 l3 l4 l5 l6 : Slot} {x : Int32} (ho : one l5 = true) (h : W1 rm 53 [l0, l1, l2, l3, l4, .val (.int x), l6] (S) (H) Q) : W1 rm 51 [l0, l1, l2, l3, l4, l5, l6] (.int x :: S) H Q := W.istore d1_51 rfl ho h
theorem s1_51w {rm : Room} {S : List Value} {H : AHeap} {Q : Option Value → AHeap → Prop} {l0 l1 l2 l3 l4 l6 : Slot} {w : Value} {x : Int32} (ho : w.category = 2) (h : W1 rm 53 [l0, l1, l2, l3, l4, .val (.int x), .unset] (S) (H) Q) : W1 rm 51 [l0, l1, l2, l3, l4, .val w, l6] (.int x :: S) H Q := W.istoreW d1_51 rfl ho (Nat.le_of_ble_eq_true rfl) h
theorem s1_51s {rm : Room} {S : List Value} {H : AHeap} {Q : Option Value → AHeap → Prop} {l0 l1 l2 l3 l4 l6 : Slot} {x : Int32} (h : W1 rm 53 [l0, l1, l2, l3, .unset, .val (.int x), l6] (S) (H) Q) : W1 rm 51 [l0, l1, l2, l3, l4, .second, l6] (.int x :: S) H Q := W.istoreS d1_51 rfl (by decide) h
theorem d1_53 : decode prog_40_method_1_code 53 = .ok (.iinc 6 1, 3) := by decide +kernel
theorem s1_53 {rm : Room} {S : List Value} {H : AHeap} {Q : Option Value → AHeap → Prop} {l0 l1 l2 l3 l4 l5 : Slot} {x : Int32} (h : W1 rm 56 [l0, l1, l2, l3, l4, l5, .val (.int (x + 1))] (S) (H) Q) : W1 rm 53 [l0, l1, l2, l3, l4, l5, .val (.int x)] (S) H Q := W.iinc d1_53 (by decide) rfl h
theorem d1_56 : decode prog_40_method_1_code 56 = .ok (.goto (-31), 3) := by decide +kernel
theorem s1_56 {rm : Room} {S : List Value} {H : AHeap} {Q : Option Value → AHeap → Prop} {l0 l1 l2 l3 l4 l5 l6 : Slot}  (h : W1 rm 25 [l0, l1, l2, l3, l4, l5, l6] (S) (H) Q) : W1 rm 56 [l0, l1, l2, l3, l4, l5, l6] (S) H Q := W.goto d1_56 (by decide) (by decide) h
theorem d1_59 : decode prog_40_method_1_code 59 = .ok (.aload_n 0, 1) := by decide +kernel
theorem s1_59 {rm : Room} {S : List Value} {H : AHeap} {Q : Option Value → AHeap → Prop} {l1 l2 l3 l4 l5 l6 : Slot} {i : Nat} (h : W1 rm 60 [.val (.ref i), l1, l2, l3, l4, l5, l6] (.ref i :: S) (H) Q) : W1 rm 59 [.val (.ref i), l1, l2, l3, l4, l5, l6] (S) H Q := W.aload_n d1_59 rfl rfl h
theorem s1_59n {rm : Room} {S : List Value} {H : AHeap} {Q : Option Value → AHeap → Prop} {l1 l2 l3 l4 l5 l6 : Slot}  (h : W1 rm 60 [.val .null, l1, l2, l3, l4, l5, l6] (.null :: S) (H) Q) : W1 rm 59 [.val .null, l1, l2, l3, l4, l5, l6] (S) H Q := W.aload_n d1_59 rfl rfl h
theorem d1_60 : decode prog_40_method_1_code 60 = .ok (.iload 5, 2) := by decide +kernel
theorem s1_60 {rm : Room} {S : List Value} {H : AHeap} {Q : Option Value → AHeap → Prop} {l0 l1 l2 l3 l4 l6 : Slot} {x : Int32} (h : W1 rm 62 [l0, l1, l2, l3, l4, .val (.int x), l6] (.int x :: S) (H) Q) : W1 rm 60 [l0, l1, l2, l3, l4, .val (.int x), l6] (S) H Q := W.iload d1_60 rfl h
theorem d1_62 : decode prog_40_method_1_code 62 = .ok (.newarray .long, 2) := by decide +kernel
theorem s1_62 {rm : Room} {S : List Value} {H : AHeap} {Q : Option Value → AHeap → Prop} {l0 l1 l2 l3 l4 l5 l6 : Slot} {n : Int32} (i N : Nat) (hn : ix n N) (hi : H.length = i) (hr : nok rm N = true) (h : W1 ⟨rm.frames, rm.cells - 1, rm.slots - N, rm.locals⟩ 64 [l0, l1, l2, l3, l4, l5, l6] (.ref i :: S) (H ++ [.inr (.long, List.replicate N (.long 0))]) Q) : W1 rm 62 [l0, l1, l2, l3, l4, l5, l6] (.int n :: S) H Q := W.newarray (ty := .long) (d := .long 0) d1_62 rfl (List.mem_of_getElem? (i := 15) rfl) rfl hn hi hr h
theorem d1_64 : decode prog_40_method_1_code 64 = .ok (.putfield 22, 3) := by decide +kernel
theorem s1_64 {rm : Room} {S : List Value} {H : AHeap} {Q : Option Value → AHeap → Prop} {l0 l1 l2 l3 l4 l5 l6 : Slot} {i : Nat} {f0 f1 f2 f3 f4 f5 f6 f7 f8 : Value} {x : Nat} (hH : H[i]? = some (.inl (0, [f0, f1, f2, f3, f4, f5, f6, f7, f8]))) (h : W1 rm 67 [l0, l1, l2, l3, l4, l5, l6] (S) (H.set i (.inl (0, [f0, f1, f2, f3, f4, f5, .ref x, f7, f8]))) Q) : W1 rm 64 [l0, l1, l2, l3, l4, l5, l6] (.ref x :: .ref i :: S) H Q := W.putF (c := 0) (j := 6) kt d1_64 (host := "") (Or.inl (List.mem_of_getElem? (i := 30) rfl)) (Or.inl rfl) rfl rfl (Or.inr ⟨(List.mem_of_getElem? (i := 31) rfl), rfl, rfl⟩) rfl rfl hH h
theorem d1_67 : decode prog_40_method_1_code 67 = .ok (.aload_n 0, 1) := by decide +kernel
theorem s1_67 {rm : Room} {S : List Value} {H : AHeap} {Q : Option Value → AHeap → Prop} {l1 l2 l3 l4 l5 l6 : Slot} {i : Nat} (h : W1 rm 68 [.val (.ref i), l1, l2, l3, l4, l5, l6] (.ref i :: S) (H) Q) : W1 rm 67 [.val (.ref i), l1, l2, l3, l4, l5, l6] (S) H Q := W.aload_n d1_67 rfl rfl h
theorem s1_67n {rm : Room} {S : List Value} {H : AHeap} {Q : Option Value → AHeap → Prop} {l1 l2 l3 l4 l5 l6 : Slot}  (h : W1 rm 68 [.val .null, l1, l2, l3, l4, l5, l6] (.null :: S) (H) Q) : W1 rm 67 [.val .null, l1, l2, l3, l4, l5, l6] (S) H Q := W.aload_n d1_67 rfl rfl h
theorem d1_68 : decode prog_40_method_1_code 68 = .ok (.getfield 22, 3) := by decide +kernel
theorem s1_68 {rm : Room} {S : List Value} {H : AHeap} {Q : Option Value → AHeap → Prop} {l0 l1 l2 l3 l4 l5 l6 : Slot} {i : Nat} {f0 f1 f2 f3 f4 f5 f6 f7 f8 : Value} (hH : H[i]? = some (.inl (0, [f0, f1, f2, f3, f4, f5, f6, f7, f8]))) (h : W1 rm 71 [l0, l1, l2, l3, l4, l5, l6] (f6 :: S) (H) Q) : W1 rm 68 [l0, l1, l2, l3, l4, l5, l6] (.ref i :: S) H Q := W.getF (c := 0) (j := 6) d1_68 (host := "") (Or.inl (List.mem_of_getElem? (i := 30) rfl)) (Or.inl rfl) rfl rfl hH rfl h
theorem d1_71 : decode prog_40_method_1_code 71 = .ok (.ldc2_w 26, 3) := by decide +kernel
theorem s1_71 {rm : Room} {S : List Value} {H : AHeap} {Q : Option Value → AHeap → Prop} {l0 l1 l2 l3 l4 l5 l6 : Slot}  (h : W1 rm 74 [l0, l1, l2, l3, l4, l5, l6] (.long 9223372036854775807 :: S) (H) Q) : W1 rm 71 [l0, l1, l2, l3, l4, l5, l6] (S) H Q := W.ldcLong d1_71 (List.mem_of_getElem? (i := 32) rfl) h
theorem d1_74 : decode prog_40_method_1_code 74 = .ok (.invokestatic 28, 3) := by decide +kernel
theorem s1_74 {rm : Room} {S : List Value} {H : AHeap} {Q : Option Value → AHeap → Prop} {l0 l1 l2 l3 l4 l5 l6 : Slot} {rm' : Room} {H' : AHeap} {a0 : Nat} {a1 : Int64}  (hM : M3 rm' [.ref a0, .long a1] H (Is none H')) (hr : rok rm rm' 5 S = true) (h : W1 (less rm rm') 77 [l0, l1, l2, l3, l4, l5, l6] (S) H' Q) : W1 rm 74 [l0, l1, l2, l3, l4, l5, l6] (.long a1 :: .ref a0 :: S) H Q := W.callS (S := S) (as := [.ref a0, .long a1]) (rm' := rm') d1_74 (List.mem_of_getElem? (i := 33) rfl) (List.mem_of_getElem? (i := 34) rfl) (List.mem_of_getElem? (i := 35) rfl) (List.mem_of_getElem? (i := 36) rfl) (by decide) pd3 rfl rfl hM hr (fun _ _ q => by obtain ⟨rfl, rfl⟩ := q; exact h)
theorem s1_74q {rm : Room} {S : List Value} {H : AHeap} {Q : Option Value → AHeap → Prop} {l0 l1 l2 l3 l4 l5 l6 : Slot} {rm' : Room} {Q' : Option Value → AHeap → Prop} {a0 a1 : Value} (hM : M3 rm' [a0, a1] H Q') (hr : rok rm rm' 5 S = true) (h : ∀ v H', Q' v H' → W1 (less rm rm') 77 [l0, l1, l2, l3, l4, l5, l6] (v.toList ++ S) H' Q) : W1 rm 74 [l0, l1, l2, l3, l4, l5, l6] (a1 :: a0 :: S) H Q := W.callS (S := S) (as := [a0, a1]) (rm' := rm') d1_74 (List.mem_of_getElem? (i := 33) rfl) (List.mem_of_getElem? (i := 34) rfl) (List.mem_of_getElem? (i := 35) rfl) (List.mem_of_getElem? (i := 36) rfl) (by decide) pd3 rfl rfl hM hr h
theorem d1_77 : decode prog_40_method_1_code 77 = .ok (.aload_n 0, 1) := by decide +kernel
theorem s1_77 {rm : Room} {S : List Value} {H : AHeap} {Q : Option Value → AHeap → Prop} {l1 l2 l3 l4 l5 l6 : Slot} {i : Nat} (h : W1 rm 78 [.val (.ref i), l1, l2, l3, l4, l5, l6] (.ref i :: S) (H) Q) : W1 rm 77 [.val (.ref i), l1, l2, l3, l4, l5, l6] (S) H Q := W.aload_n d1_77 rfl rfl h
theorem s1_77n {rm : Room} {S : List Value} {H : AHeap} {Q : Option Value → AHeap → Prop} {l1 l2 l3 l4 l5 l6 : Slot}  (h : W1 rm 78 [.val .null, l1, l2, l3, l4, l5, l6] (.null :: S) (H) Q) : W1 rm 77 [.val .null, l1, l2, l3, l4, l5, l6] (S) H Q := W.aload_n d1_77 rfl rfl h
theorem d1_78 : decode prog_40_method_1_code 78 = .ok (.aload_n 1, 1) := by decide +kernel
theorem s1_78 {rm : Room} {S : List Value} {H : AHeap} {Q : Option Value → AHeap → Prop} {l0 l2 l3 l4 l5 l6 : Slot} {i : Nat} (h : W1 rm 79 [l0, .val (.ref i), l2, l3, l4, l5, l6] (.ref i :: S) (H) Q) : W1 rm 78 [l0, .val (.ref i), l2, l3, l4, l5, l6] (S) H Q := W.aload_n d1_78 rfl rfl h
theorem s1_78n {rm : Room} {S : List Value} {H : AHeap} {Q : Option Value → AHeap → Prop} {l0 l2 l3 l4 l5 l6 : Slot}  (h : W1 rm 79 [l0, .val .null, l2, l3, l4, l5, l6] (.null :: S) (H) Q) : W1 rm 78 [l0, .val .null, l2, l3, l4, l5, l6] (S) H Q := W.aload_n d1_78 rfl rfl h
theorem d1_79 : decode prog_40_method_1_code 79 = .ok (.arraylength, 1) := by decide +kernel
theorem s1_79 {rm : Room} {S : List Value} {H : AHeap} {Q : Option Value → AHeap → Prop} {l0 l1 l2 l3 l4 l5 l6 : Slot} {i : Nat} {ty : FieldType} {vs : List Value} (hH : H[i]? = some (.inr (ty, vs))) (h : W1 rm 80 [l0, l1, l2, l3, l4, l5, l6] (.int (Int32.ofNat vs.length) :: S) (H) Q) : W1 rm 79 [l0, l1, l2, l3, l4, l5, l6] (.ref i :: S) H Q := W.arraylength d1_79 hH h
theorem s1_79k {rm : Room} {S : List Value} {H : AHeap} {Q : Option Value → AHeap → Prop} {l0 l1 l2 l3 l4 l5 l6 : Slot} {i : Nat} {ty : FieldType} {vs : List Value} (n : Int32) (hH : H[i]? = some (.inr (ty, vs))) (hn : Int32.ofNat vs.length = n) (h : W1 rm 80 [l0, l1, l2, l3, l4, l5, l6] (.int n :: S) (H) Q) : W1 rm 79 [l0, l1, l2, l3, l4, l5, l6] (.ref i :: S) H Q := W.arraylength d1_79 hH (by rw [hn]; exact h)
theorem d1_80 : decode prog_40_method_1_code 80 = .ok (.newarray .long, 2) := by decide +kernel
theorem s1_80 {rm : Room} {S : List Value} {H : AHeap} {Q : Option Value → AHeap → Prop} {l0 l1 l2 l3 l4 l5 l6 : Slot} {n : Int32} (i N : Nat) (hn : ix n N) (hi : H.length = i) (hr : nok rm N = true) (h : W1 ⟨rm.frames, rm.cells - 1, rm.slots - N, rm.locals⟩ 82 [l0, l1, l2, l3, l4, l5, l6] (.ref i :: S) (H ++ [.inr (.long, List.replicate N (.long 0))]) Q) : W1 rm 80 [l0, l1, l2, l3, l4, l5, l6] (.int n :: S) H Q := W.newarray (ty := .long) (d := .long 0) d1_80 rfl (List.mem_of_getElem? (i := 15) rfl) rfl hn hi hr h
theorem d1_82 : decode prog_40_method_1_code 82 = .ok (.putfield 34, 3) := by decide +kernel
theorem s1_82 {rm : Room} {S : List Value} {H : AHeap} {Q : Option Value → AHeap → Prop} {l0 l1 l2 l3 l4 l5 l6 : Slot} {i : Nat} {f0 f1 f2 f3 f4 f5 f6 f7 f8 : Value} {x : Nat} (hH : H[i]? = some (.inl (0, [f0, f1, f2, f3, f4, f5, f6, f7, f8]))) (h : W1 rm 85 [l0, l1, l2, l3, l4, l5, l6] (S) (H.set i (.inl (0, [f0, f1, f2, f3, f4, f5, f6, .ref x, f8]))) Q) : W1 rm 82 [l0, l1, l2, l3, l4, l5, l6] (.ref x :: .ref i :: S) H Q := W.putF (c := 0) (j := 7) kt d1_82 (host := "") (Or.inl (List.mem_of_getElem? (i := 37) rfl)) (Or.inl rfl) rfl rfl (Or.inr ⟨(List.mem_of_getElem? (i := 38) rfl), rfl, rfl⟩) rfl rfl hH h
theorem d1_85 : decode prog_40_method_1_code 85 = .ok (.return_, 1) := by decide +kernel
theorem s1_85 {rm : Room} {H : AHeap} {Q : Option Value → AHeap → Prop} {l0 l1 l2 l3 l4 l5 l6 : Slot} (hQ : Q none H) : W1 rm 85 [l0, l1, l2, l3, l4, l5, l6] [] H Q := W.ret_ d1_85 rfl hQ
theorem e2 {rm : Room} {H : AHeap} {Q : Option Value → AHeap → Prop} {a0 : Nat} {a1 : Nat} {a2 : Nat} (h : W2 rm 0 [.val (.ref a0), .val (.ref a1), .val (.ref a2), .unset] [] H Q) : M2 rm [.ref a0, .ref a1, .ref a2] H Q := M.of pf2 rfl rfl h
theorem e2L {rm : Room} {H : AHeap} {Q : Option Value → AHeap → Prop} {L : List Slot} {as : List Value} (h : W2 rm 0 L [] H Q) (hl : ent as ++ List.replicate (4 - (ent as).length) .unset = L := by rfl) (hn : L.length = 4 := by rfl) : M2 rm as H Q := M.of pf2 hl hn h
theorem d2_0 : decode prog_38_method_1_code 0 = .ok (.aload_n 0, 1) := by decide +kernel
theorem s2_0 {rm : Room} {S : List Value} {H : AHeap} {Q : Option Value → AHeap → Prop} {l1 l2 l3 : Slot} {i : Nat} (h : W2 rm 1 [.val (.ref i), l1, l2, l3] (.ref i :: S) (H) Q) : W2 rm 0 [.val (.ref i), l1, l2, l3] (S) H Q := W.aload_n d2_0 rfl rfl h
theorem s2_0n {rm : Room} {S : List Value} {H : AHeap} {Q : Option Value → AHeap → Prop} {l1 l2 l3 : Slot}  (h : W2 rm 1 [.val .null, l1, l2, l3] (.null :: S) (H) Q) : W2 rm 0 [.val .null, l1, l2, l3] (S) H Q := W.aload_n d2_0 rfl rfl h
theorem d2_1 : decode prog_38_method_1_code 1 = .ok (.invokespecial 1, 3) := by decide +kernel
theorem s2_1 {rm : Room} {S : List Value} {H : AHeap} {Q : Option Value → AHeap → Prop} {l0 l1 l2 l3 : Slot} {i : Nat} (hr : iok rm S = true) (h : W2 rm 4 [l0, l1, l2, l3] (S) (H) Q) : W2 rm 1 [l0, l1, l2, l3] (.ref i :: S) H Q := W.initO d2_1 (List.mem_of_getElem? (i := 12) rfl) (List.mem_of_getElem? (i := 13) rfl) (List.mem_of_getElem? (i := 14) rfl) hr h
theorem d2_4 : decode prog_38_method_1_code 4 = .ok (.aload_n 0, 1) := by decide +kernel
theorem s2_4 {rm : Room} {S : List Value} {H : AHeap} {Q : Option Value → AHeap → Prop} {l1 l2 l3 : Slot} {i : Nat} (h : W2 rm 5 [.val (.ref i), l1, l2, l3] (.ref i :: S) (H) Q) : W2 rm 4 [.val (.ref i), l1, l2, l3] (S) H Q := W.aload_n d2_4 rfl rfl h
theorem s2_4n {rm : Room} {S : List Value} {H : AHeap} {Q : Option Value → AHeap → Prop} {l1 l2 l3 : Slot}  (h : W2 rm 5 [.val .null, l1, l2, l3] (.null :: S) (H) Q) : W2 rm 4 [.val .null, l1, l2, l3] (S) H Q := W.aload_n d2_4 rfl rfl h
theorem d2_5 : decode prog_38_method_1_code 5 = .ok (.bipush 16, 2) := by decide +kernel
theorem s2_5 {rm : Room} {S : List Value} {H : AHeap} {Q : Option Value → AHeap → Prop} {l0 l1 l2 l3 : Slot}  (h : W2 rm 7 [l0, l1, l2, l3] (.int 16 :: S) (H) Q) : W2 rm 5 [l0, l1, l2, l3] (S) H Q := W.bipush' d2_5 (by decide) h
theorem d2_7 : decode prog_38_method_1_code 7 = .ok (.newarray .long, 2) := by decide +kernel
theorem s2_7 {rm : Room} {S : List Value} {H : AHeap} {Q : Option Value → AHeap → Prop} {l0 l1 l2 l3 : Slot} {n : Int32} (i N : Nat) (hn : ix n N) (hi : H.length = i) (hr : nok rm N = true) (h : W2 ⟨rm.frames, rm.cells - 1, rm.slots - N, rm.locals⟩ 9 [l0, l1, l2, l3] (.ref i :: S) (H ++ [.inr (.long, List.replicate N (.long 0))]) Q) : W2 rm 7 [l0, l1, l2, l3] (.int n :: S) H Q := W.newarray (ty := .long) (d := .long 0) d2_7 rfl (List.mem_of_getElem? (i := 15) rfl) rfl hn hi hr h
theorem d2_9 : decode prog_38_method_1_code 9 = .ok (.putfield 7, 3) := by decide +kernel
theorem s2_9 {rm : Room} {S : List Value} {H : AHeap} {Q : Option Value → AHeap → Prop} {l0 l1 l2 l3 : Slot} {i : Nat} {f0 f1 f2 f3 f4 f5 f6 f7 f8 : Value} {x : Nat} (hH : H[i]? = some (.inl (0, [f0, f1, f2, f3, f4, f5, f6, f7, f8]))) (h : W2 rm 12 [l0, l1, l2, l3] (S) (H.set i (.inl (0, [.ref x, f1, f2, f3, f4, f5, f6, f7, f8]))) Q) : W2 rm 9 [l0, l1, l2, l3] (.ref x :: .ref i :: S) H Q := W.putF (c := 0) (j := 0) kt d2_9 (host := "") (Or.inl (List.mem_of_getElem? (i := 16) rfl)) (Or.inl rfl) rfl rfl (Or.inl (List.mem_of_getElem? (i := 17) rfl)) rfl rfl hH h
theorem d2_12 : decode prog_38_method_1_code 12 = .ok (.aload_n 0, 1) := by decide +kernel
theorem s2_12 {rm : Room} {S : List Value} {H : AHeap} {Q : Option Value → AHeap → Prop} {l1 l2 l3 : Slot} {i : Nat} (h : W2 rm 13 [.val (.ref i), l1, l2, l3] (.ref i :: S) (H) Q) : W2 rm 12 [.val (.ref i), l1, l2, l3] (S) H Q := W.aload_n d2_12 rfl rfl h
theorem s2_12n {rm : Room} {S : List Value} {H : AHeap} {Q : Option Value → AHeap → Prop} {l1 l2 l3 : Slot}  (h : W2 rm 13 [.val .null, l1, l2, l3] (.null :: S) (H) Q) : W2 rm 12 [.val .null, l1, l2, l3] (S) H Q := W.aload_n d2_12 rfl rfl h
theorem d2_13 : decode prog_38_method_1_code 13 = .ok (.bipush 16, 2) := by decide +kernel
theorem s2_13 {rm : Room} {S : List Value} {H : AHeap} {Q : Option Value → AHeap → Prop} {l0 l1 l2 l3 : Slot}  (h : W2 rm 15 [l0, l1, l2, l3] (.int 16 :: S) (H) Q) : W2 rm 13 [l0, l1, l2, l3] (S) H Q := W.bipush' d2_13 (by decide) h
theorem d2_15 : decode prog_38_method_1_code 15 = .ok (.newarray .int, 2) := by decide +kernel
theorem s2_15 {rm : Room} {S : List Value} {H : AHeap} {Q : Option Value → AHeap → Prop} {l0 l1 l2 l3 : Slot} {n : Int32} (i N : Nat) (hn : ix n N) (hi : H.length = i) (hr : nok rm N = true) (h : W2 ⟨rm.frames, rm.cells - 1, rm.slots - N, rm.locals⟩ 17 [l0, l1, l2, l3] (.ref i :: S) (H ++ [.inr (.int, List.replicate N (.int 0))]) Q) : W2 rm 15 [l0, l1, l2, l3] (.int n :: S) H Q := W.newarray (ty := .int) (d := .int 0) d2_15 rfl (List.mem_of_getElem? (i := 0) rfl) rfl hn hi hr h
theorem d2_17 : decode prog_38_method_1_code 17 = .ok (.putfield 13, 3) := by decide +kernel
theorem s2_17 {rm : Room} {S : List Value} {H : AHeap} {Q : Option Value → AHeap → Prop} {l0 l1 l2 l3 : Slot} {i : Nat} {f0 f1 f2 f3 f4 f5 f6 f7 f8 : Value} {x : Nat} (hH : H[i]? = some (.inl (0, [f0, f1, f2, f3, f4, f5, f6, f7, f8]))) (h : W2 rm 20 [l0, l1, l2, l3] (S) (H.set i (.inl (0, [f0, .ref x, f2, f3, f4, f5, f6, f7, f8]))) Q) : W2 rm 17 [l0, l1, l2, l3] (.ref x :: .ref i :: S) H Q := W.putF (c := 0) (j := 1) kt d2_17 (host := "") (Or.inl (List.mem_of_getElem? (i := 18) rfl)) (Or.inl rfl) rfl rfl (Or.inl (List.mem_of_getElem? (i := 19) rfl)) rfl rfl hH h
theorem d2_20 : decode prog_38_method_1_code 20 = .ok (.aload_n 0, 1) := by decide +kernel
theorem s2_20 {rm : Room} {S : List Value} {H : AHeap} {Q : Option Value → AHeap → Prop} {l1 l2 l3 : Slot} {i : Nat} (h : W2 rm 21 [.val (.ref i), l1, l2, l3] (.ref i :: S) (H) Q) : W2 rm 20 [.val (.ref i), l1, l2, l3] (S) H Q := W.aload_n d2_20 rfl rfl h
theorem s2_20n {rm : Room} {S : List Value} {H : AHeap} {Q : Option Value → AHeap → Prop} {l1 l2 l3 : Slot}  (h : W2 rm 21 [.val .null, l1, l2, l3] (.null :: S) (H) Q) : W2 rm 20 [.val .null, l1, l2, l3] (S) H Q := W.aload_n d2_20 rfl rfl h
theorem d2_21 : decode prog_38_method_1_code 21 = .ok (.aload_n 1, 1) := by decide +kernel
theorem s2_21 {rm : Room} {S : List Value} {H : AHeap} {Q : Option Value → AHeap → Prop} {l0 l2 l3 : Slot} {i : Nat} (h : W2 rm 22 [l0, .val (.ref i), l2, l3] (.ref i :: S) (H) Q) : W2 rm 21 [l0, .val (.ref i), l2, l3] (S) H Q := W.aload_n d2_21 rfl rfl h
theorem s2_21n {rm : Room} {S : List Value} {H : AHeap} {Q : Option Value → AHeap → Prop} {l0 l2 l3 : Slot}  (h : W2 rm 22 [l0, .val .null, l2, l3] (.null :: S) (H) Q) : W2 rm 21 [l0, .val .null, l2, l3] (S) H Q := W.aload_n d2_21 rfl rfl h
theorem d2_22 : decode prog_38_method_1_code 22 = .ok (.putfield 17, 3) := by decide +kernel
theorem s2_22 {rm : Room} {S : List Value} {H : AHeap} {Q : Option Value → AHeap → Prop} {l0 l1 l2 l3 : Slot} {i : Nat} {f0 f1 f2 f3 f4 f5 f6 f7 f8 : Value} {x : Nat} (hH : H[i]? = some (.inl (0, [f0, f1, f2, f3, f4, f5, f6, f7, f8]))) (h : W2 rm 25 [l0, l1, l2, l3] (S) (H.set i (.inl (0, [f0, f1, .ref x, f3, f4, f5, f6, f7, f8]))) Q) : W2 rm 22 [l0, l1, l2, l3] (.ref x :: .ref i :: S) H Q := W.putF (c := 0) (j := 2) kt d2_22 (host := "") (Or.inl (List.mem_of_getElem? (i := 20) rfl)) (Or.inl rfl) rfl rfl (Or.inr ⟨(List.mem_of_getElem? (i := 21) rfl), rfl, rfl⟩) rfl rfl hH h
theorem d2_25 : decode prog_38_method_1_code 25 = .ok (.aload_n 0, 1) := by decide +kernel
theorem s2_25 {rm : Room} {S : List Value} {H : AHeap} {Q : Option Value → AHeap → Prop} {l1 l2 l3 : Slot} {i : Nat} (h : W2 rm 26 [.val (.ref i), l1, l2, l3] (.ref i :: S) (H) Q) : W2 rm 25 [.val (.ref i), l1, l2, l3] (S) H Q := W.aload_n d2_25 rfl rfl h
theorem s2_25n {rm : Room} {S : List Value} {H : AHeap} {Q : Option Value → AHeap → Prop} {l1 l2 l3 : Slot}  (h : W2 rm 26 [.val .null, l1, l2, l3] (.null :: S) (H) Q) : W2 rm 25 [.val .null, l1, l2, l3] (S) H Q := W.aload_n d2_25 rfl rfl h
theorem d2_26 : decode prog_38_method_1_code 26 = .ok (.aload_n 1, 1) := by decide +kernel
theorem s2_26 {rm : Room} {S : List Value} {H : AHeap} {Q : Option Value → AHeap → Prop} {l0 l2 l3 : Slot} {i : Nat} (h : W2 rm 27 [l0, .val (.ref i), l2, l3] (.ref i :: S) (H) Q) : W2 rm 26 [l0, .val (.ref i), l2, l3] (S) H Q := W.aload_n d2_26 rfl rfl h
theorem s2_26n {rm : Room} {S : List Value} {H : AHeap} {Q : Option Value → AHeap → Prop} {l0 l2 l3 : Slot}  (h : W2 rm 27 [l0, .val .null, l2, l3] (.null :: S) (H) Q) : W2 rm 26 [l0, .val .null, l2, l3] (S) H Q := W.aload_n d2_26 rfl rfl h
theorem d2_27 : decode prog_38_method_1_code 27 = .ok (.arraylength, 1) := by decide +kernel
theorem s2_27 {rm : Room} {S : List Value} {H : AHeap} {Q : Option Value → AHeap → Prop} {l0 l1 l2 l3 : Slot} {i : Nat} {ty : FieldType} {vs : List Value} (hH : H[i]? = some (.inr (ty, vs))) (h : W2 rm 28 [l0, l1, l2, l3] (.int (Int32.ofNat vs.length) :: S) (H) Q) : W2 rm 27 [l0, l1, l2, l3] (.ref i :: S) H Q := W.arraylength d2_27 hH h
theorem s2_27k {rm : Room} {S : List Value} {H : AHeap} {Q : Option Value → AHeap → Prop} {l0 l1 l2 l3 : Slot} {i : Nat} {ty : FieldType} {vs : List Value} (n : Int32) (hH : H[i]? = some (.inr (ty, vs))) (hn : Int32.ofNat vs.length = n) (h : W2 rm 28 [l0, l1, l2, l3] (.int n :: S) (H) Q) : W2 rm 27 [l0, l1, l2, l3] (.ref i :: S) H Q := W.arraylength d2_27 hH (by rw [hn]; exact h)
theorem d2_28 : decode prog_38_method_1_code 28 = .ok (.newarray .int, 2) := by decide +kernel
theorem s2_28 {rm : Room} {S : List Value} {H : AHeap} {Q : Option Value → AHeap → Prop} {l0 l1 l2 l3 : Slot} {n : Int32} (i N : Nat) (hn : ix n N) (hi : H.length = i) (hr : nok rm N = true) (h : W2 ⟨rm.frames, rm.cells - 1, rm.slots - N, rm.locals⟩ 30 [l0, l1, l2, l3] (.ref i :: S) (H ++ [.inr (.int, List.replicate N (.int 0))]) Q) : W2 rm 28 [l0, l1, l2, l3] (.int n :: S) H Q := W.newarray (ty := .int) (d := .int 0) d2_28 rfl (List.mem_of_getElem? (i := 0) rfl) rfl hn hi hr h
theorem d2_30 : decode prog_38_method_1_code 30 = .ok (.putfield 20, 3) := by decide +kernel
theorem s2_30 {rm : Room} {S : List Value} {H : AHeap} {Q : Option Value → AHeap → Prop} {l0 l1 l2 l3 : Slot} {i : Nat} {f0 f1 f2 f3 f4 f5 f6 f7 f8 : Value} {x : Nat} (hH : H[i]? = some (.inl (0, [f0, f1, f2, f3, f4, f5, f6, f7, f8]))) (h : W2 rm 33 [l0, l1, l2, l3] (S) (H.set i (.inl (0, [f0, f1, f2, .ref x, f4, f5, f6, f7, f8]))) Q) : W2 rm 30 [l0, l1, l2, l3] (.ref x :: .ref i :: S) H Q := W.putF (c := 0) (j := 3) kt d2_30 (host := "") (Or.inl (List.mem_of_getElem? (i := 22) rfl)) (Or.inl rfl) rfl rfl (Or.inr ⟨(List.mem_of_getElem? (i := 23) rfl), rfl, rfl⟩) rfl rfl hH h
theorem d2_33 : decode prog_38_method_1_code 33 = .ok (.iconst 0, 1) := by decide +kernel
theorem s2_33 {rm : Room} {S : List Value} {H : AHeap} {Q : Option Value → AHeap → Prop} {l0 l1 l2 l3 : Slot}  (h : W2 rm 34 [l0, l1, l2, l3] (.int 0 :: S) (H) Q) : W2 rm 33 [l0, l1, l2, l3] (S) H Q := W.iconst' d2_33 (by decide) h
theorem d2_34 : decode prog_38_method_1_code 34 = .ok (.istore_n 3, 1) := by decide +kernel
theorem s2_34 {rm : Room} {S : List Value} {H : AHeap} {Q : Option Value → AHeap → Prop} {l0 l1 l2 l3 : Slot} {x : Int32} (ho : one l3 = true) (h : W2 rm 35 [l0, l1, l2, .val (.int x)] (S) (H) Q) : W2 rm 34 [l0, l1, l2, l3] (.int x :: S) H Q := W.istore_n d2_34 rfl ho h
theorem s2_34s {rm : Room} {S : List Value} {H : AHeap} {Q : Option Value → AHeap → Prop} {l0 l1 l2 : Slot} {x : Int32} (h : W2 rm 35 [l0, l1, .unset, .val (.int x)] (S) (H) Q) : W2 rm 34 [l0, l1, l2, .second] (.int x :: S) H Q := W.istore_nS d2_34 rfl (by decide) h
theorem d2_35 : decode prog_38_method_1_code 35 = .ok (.iload_n 3, 1) := by decide +kernel
theorem s2_35 {rm : Room} {S : List Value} {H : AHeap} {Q : Option Value → AHeap → Prop} {l0 l1 l2 : Slot} {x : Int32} (h : W2 rm 36 [l0, l1, l2, .val (.int x)] (.int x :: S) (H) Q) : W2 rm 35 [l0, l1, l2, .val (.int x)] (S) H Q := W.iload_n d2_35 rfl h
theorem d2_36 : decode prog_38_method_1_code 36 = .ok (.aload_n 1, 1) := by decide +kernel
theorem s2_36 {rm : Room} {S : List Value} {H : AHeap} {Q : Option Value → AHeap → Prop} {l0 l2 l3 : Slot} {i : Nat} (h : W2 rm 37 [l0, .val (.ref i), l2, l3] (.ref i :: S) (H) Q) : W2 rm 36 [l0, .val (.ref i), l2, l3] (S) H Q := W.aload_n d2_36 rfl rfl h
theorem s2_36n {rm : Room} {S : List Value} {H : AHeap} {Q : Option Value → AHeap → Prop} {l0 l2 l3 : Slot}  (h : W2 rm 37 [l0, .val .null, l2, l3] (.null :: S) (H) Q) : W2 rm 36 [l0, .val .null, l2, l3] (S) H Q := W.aload_n d2_36 rfl rfl h
theorem d2_37 : decode prog_38_method_1_code 37 = .ok (.arraylength, 1) := by decide +kernel
theorem s2_37 {rm : Room} {S : List Value} {H : AHeap} {Q : Option Value → AHeap → Prop} {l0 l1 l2 l3 : Slot} {i : Nat} {ty : FieldType} {vs : List Value} (hH : H[i]? = some (.inr (ty, vs))) (h : W2 rm 38 [l0, l1, l2, l3] (.int (Int32.ofNat vs.length) :: S) (H) Q) : W2 rm 37 [l0, l1, l2, l3] (.ref i :: S) H Q := W.arraylength d2_37 hH h
theorem s2_37k {rm : Room} {S : List Value} {H : AHeap} {Q : Option Value → AHeap → Prop} {l0 l1 l2 l3 : Slot} {i : Nat} {ty : FieldType} {vs : List Value} (n : Int32) (hH : H[i]? = some (.inr (ty, vs))) (hn : Int32.ofNat vs.length = n) (h : W2 rm 38 [l0, l1, l2, l3] (.int n :: S) (H) Q) : W2 rm 37 [l0, l1, l2, l3] (.ref i :: S) H Q := W.arraylength d2_37 hH (by rw [hn]; exact h)
theorem d2_38 : decode prog_38_method_1_code 38 = .ok (.if_icmp .ge 22, 3) := by decide +kernel
theorem s2_38 {rm : Room} {S : List Value} {H : AHeap} {Q : Option Value → AHeap → Prop} {l0 l1 l2 l3 : Slot} {x y : Int32} (h1 : ¬ x < y → W2 rm 60 [l0, l1, l2, l3] S H Q) (h2 : x < y → W2 rm 41 [l0, l1, l2, l3] S H Q) : W2 rm 38 [l0, l1, l2, l3] (.int y :: .int x :: S) H Q := W.icmp d2_38 (by decide) (by decide) h1 h2
theorem d2_41 : decode prog_38_method_1_code 41 = .ok (.aload_n 0, 1) := by decide +kernel
theorem s2_41 {rm : Room} {S : List Value} {H : AHeap} {Q : Option Value → AHeap → Prop} {l1 l2 l3 : Slot} {i : Nat} (h : W2 rm 42 [.val (.ref i), l1, l2, l3] (.ref i :: S) (H) Q) : W2 rm 41 [.val (.ref i), l1, l2, l3] (S) H Q := W.aload_n d2_41 rfl rfl h
theorem s2_41n {rm : Room} {S : List Value} {H : AHeap} {Q : Option Value → AHeap → Prop} {l1 l2 l3 : Slot}  (h : W2 rm 42 [.val .null, l1, l2, l3] (.null :: S) (H) Q) : W2 rm 41 [.val .null, l1, l2, l3] (S) H Q := W.aload_n d2_41 rfl rfl h
theorem d2_42 : decode prog_38_method_1_code 42 = .ok (.getfield 20, 3) := by decide +kernel
theorem s2_42 {rm : Room} {S : List Value} {H : AHeap} {Q : Option Value → AHeap → Prop} {l0 l1 l2 l3 : Slot} {i : Nat} {f0 f1 f2 f3 f4 f5 f6 f7 f8 : Value} (hH : H[i]? = some (.inl (0, [f0, f1, f2, f3, f4, f5, f6, f7, f8]))) (h : W2 rm 45 [l0, l1, l2, l3] (f3 :: S) (H) Q) : W2 rm 42 [l0, l1, l2, l3] (.ref i :: S) H Q := W.getF (c := 0) (j := 3) d2_42 (host := "") (Or.inl (List.mem_of_getElem? (i := 22) rfl)) (Or.inl rfl) rfl rfl hH rfl h
theorem d2_45 : decode prog_38_method_1_code 45 = .ok (.iload_n 3, 1) := by decide +kernel
theorem s2_45 {rm : Room} {S : List Value} {H : AHeap} {Q : Option Value → AHeap → Prop} {l0 l1 l2 : Slot} {x : Int32} (h : W2 rm 46 [l0, l1, l2, .val (.int x)] (.int x :: S) (H) Q) : W2 rm 45 [l0, l1, l2, .val (.int x)] (S) H Q := W.iload_n d2_45 rfl h
theorem d2_46 : decode prog_38_method_1_code 46 = .ok (.aload_n 1, 1) := by decide +kernel
theorem s2_46 {rm : Room} {S : List Value} {H : AHeap} {Q : Option Value → AHeap → Prop} {l0 l2 l3 : Slot} {i : Nat} (h : W2 rm 47 [l0, .val (.ref i), l2, l3] (.ref i :: S) (H) Q) : W2 rm 46 [l0, .val (.ref i), l2, l3] (S) H Q := W.aload_n d2_46 rfl rfl h
theorem s2_46n {rm : Room} {S : List Value} {H : AHeap} {Q : Option Value → AHeap → Prop} {l0 l2 l3 : Slot}  (h : W2 rm 47 [l0, .val .null, l2, l3] (.null :: S) (H) Q) : W2 rm 46 [l0, .val .null, l2, l3] (S) H Q := W.aload_n d2_46 rfl rfl h
theorem d2_47 : decode prog_38_method_1_code 47 = .ok (.iload_n 3, 1) := by decide +kernel
theorem s2_47 {rm : Room} {S : List Value} {H : AHeap} {Q : Option Value → AHeap → Prop} {l0 l1 l2 : Slot} {x : Int32} (h : W2 rm 48 [l0, l1, l2, .val (.int x)] (.int x :: S) (H) Q) : W2 rm 47 [l0, l1, l2, .val (.int x)] (S) H Q := W.iload_n d2_47 rfl h
theorem d2_48 : decode prog_38_method_1_code 48 = .ok (.iaload, 1) := by decide +kernel
theorem s2_48 {rm : Room} {S : List Value} {H : AHeap} {Q : Option Value → AHeap → Prop} {l0 l1 l2 l3 : Slot} {i : Nat} {j : Int32} {vs : List Value} {v : Value} (N : Nat) (hH : H[i]? = some (.inr (.int, vs))) (hj : ix j N) (hv : vs[N]? = some v) (h : W2 rm 49 [l0, l1, l2, l3] (v :: S) (H) Q) : W2 rm 48 [l0, l1, l2, l3] (.int j :: .ref i :: S) H Q := W.xaload (Or.inl ⟨rfl, rfl⟩) d2_48 hH hj hv h
theorem d2_49 : decode prog_38_method_1_code 49 = .ok (.aload_n 2, 1) := by decide +kernel
theorem s2_49 {rm : Room} {S : List Value} {H : AHeap} {Q : Option Value → AHeap → Prop} {l0 l1 l3 : Slot} {i : Nat} (h : W2 rm 50 [l0, l1, .val (.ref i), l3] (.ref i :: S) (H) Q) : W2 rm 49 [l0, l1, .val (.ref i), l3] (S) H Q := W.aload_n d2_49 rfl rfl h
theorem s2_49n {rm : Room} {S : List Value} {H : AHeap} {Q : Option Value → AHeap → Prop} {l0 l1 l3 : Slot}  (h : W2 rm 50 [l0, l1, .val .null, l3] (.null :: S) (H) Q) : W2 rm 49 [l0, l1, .val .null, l3] (S) H Q := W.aload_n d2_49 rfl rfl h
theorem d2_50 : decode prog_38_method_1_code 50 = .ok (.iload_n 3, 1) := by decide +kernel
theorem s2_50 {rm : Room} {S : List Value} {H : AHeap} {Q : Option Value → AHeap → Prop} {l0 l1 l2 : Slot} {x : Int32} (h : W2 rm 51 [l0, l1, l2, .val (.int x)] (.int x :: S) (H) Q) : W2 rm 50 [l0, l1, l2, .val (.int x)] (S) H Q := W.iload_n d2_50 rfl h
theorem d2_51 : decode prog_38_method_1_code 51 = .ok (.iaload, 1) := by decide +kernel
theorem s2_51 {rm : Room} {S : List Value} {H : AHeap} {Q : Option Value → AHeap → Prop} {l0 l1 l2 l3 : Slot} {i : Nat} {j : Int32} {vs : List Value} {v : Value} (N : Nat) (hH : H[i]? = some (.inr (.int, vs))) (hj : ix j N) (hv : vs[N]? = some v) (h : W2 rm 52 [l0, l1, l2, l3] (v :: S) (H) Q) : W2 rm 51 [l0, l1, l2, l3] (.int j :: .ref i :: S) H Q := W.xaload (Or.inl ⟨rfl, rfl⟩) d2_51 hH hj hv h
theorem d2_52 : decode prog_38_method_1_code 52 = .ok (.iadd, 1) := by decide +kernel
theorem s2_52 {rm : Room} {S : List Value} {H : AHeap} {Q : Option Value → AHeap → Prop} {l0 l1 l2 l3 : Slot} {x y : Int32} (h : W2 rm 53 [l0, l1, l2, l3] (.int (x + y) :: S) (H) Q) : W2 rm 52 [l0, l1, l2, l3] (.int y :: .int x :: S) H Q := W.iadd d2_52 h
theorem d2_53 : decode prog_38_method_1_code 53 = .ok (.iastore, 1) := by decide +kernel
theorem s2_53 {rm : Room} {S : List Value} {H : AHeap} {Q : Option Value → AHeap → Prop} {l0 l1 l2 l3 : Slot} {i : Nat} {j : Int32} {x : Int32} {vs : List Value} (N : Nat) (hH : H[i]? = some (.inr (.int, vs))) (hj : ix j N) (hl : Nat.blt N vs.length = true) (h : W2 rm 54 [l0, l1, l2, l3] (S) (H.set i (.inr (.int, vs.set N (.int x)))) Q) : W2 rm 53 [l0, l1, l2, l3] (.int x :: .int j :: .ref i :: S) H Q := W.iastore d2_53 hH hj hl h
theorem d2_54 : decode prog_38_method_1_code 54 = .ok (.iinc 3 1, 3) := by decide +kernel
theorem s2_54 {rm : Room} {S : List Value} {H : AHeap} {Q : Option Value → AHeap → Prop} {l0 l1 l2 : Slot} {x : Int32} (h : W2 rm 57 [l0, l1, l2, .val (.int (x + 1))] (S) (H) Q) : W2 rm 54 [l0, l1, l2, .val (.int x)] (S) H Q := W.iinc d2_54 (by decide) rfl h
theorem d2_57 : decode prog_38_method_1_code 57 = .ok (.goto (-22), 3) := by decide +kernel
theorem s2_57 {rm : Room} {S : List Value} {H : AHeap} {Q : Option Value → AHeap → Prop} {l0 l1 l2 l3 : Slot}  (h : W2 rm 35 [l0, l1, l2, l3] (S) (H) Q) : W2 rm 57 [l0, l1, l2, l3] (S) H Q := W.goto d2_57 (by decide) (by decide) h
theorem d2_60 : decode prog_38_method_1_code 60 = .ok (.return_, 1) := by decide +kernel
theorem s2_60 {rm : Room} {H : AHeap} {Q : Option Value → AHeap → Prop} {l0 l1 l2 l3 : Slot} (hQ : Q none H) : W2 rm 60 [l0, l1, l2, l3] [] H Q := W.ret_ d2_60 rfl hQ
theorem e3 {rm : Room} {H : AHeap} {Q : Option Value → AHeap → Prop} {a0 : Nat} {a1 : Int64} (h : W3 rm 0 [.val (.ref a0), .val (.long a1), .second, .unset, .unset] [] H Q) : M3 rm [.ref a0, .long a1] H Q := M.of pf3 rfl rfl h
theorem e3L {rm : Room} {H : AHeap} {Q : Option Value → AHeap → Prop} {L : List Slot} {as : List Value} (h : W3 rm 0 L [] H Q) (hl : ent as ++ List.replicate (5 - (ent as).length) .unset = L := by rfl) (hn : L.length = 5 := by rfl) : M3 rm as H Q := M.of pf3 hl hn h
theorem d3_0 : decode jdk_65_method_101_code 0 = .ok (.iconst 0, 1) := by decide +kernel
theorem s3_0 {rm : Room} {S : List Value} {H : AHeap} {Q : Option Value → AHeap → Prop} {l0 l1 l2 l3 l4 : Slot}  (h : W3 rm 1 [l0, l1, l2, l3, l4] (.int 0 :: S) (H) Q) : W3 rm 0 [l0, l1, l2, l3, l4] (S) H Q := W.iconst' d3_0 (by decide) h
theorem d3_1 : decode jdk_65_method_101_code 1 = .ok (.istore_n 3, 1) := by decide +kernel
theorem s3_1 {rm : Room} {S : List Value} {H : AHeap} {Q : Option Value → AHeap → Prop} {l0 l1 l2 l3 l4 : Slot} {x : Int32} (ho : one l3 = true) (h : W3 rm 2 [l0, l1, l2, .val (.int x), l4] (S) (H) Q) : W3 rm 1 [l0, l1, l2, l3, l4] (.int x :: S) H Q := W.istore_n d3_1 rfl ho h
theorem s3_1w {rm : Room} {S : List Value} {H : AHeap} {Q : Option Value → AHeap → Prop} {l0 l1 l2 l4 : Slot} {w : Value} {x : Int32} (ho : w.category = 2) (h : W3 rm 2 [l0, l1, l2, .val (.int x), .unset] (S) (H) Q) : W3 rm 1 [l0, l1, l2, .val w, l4] (.int x :: S) H Q := W.istore_nW d3_1 rfl ho (Nat.le_of_ble_eq_true rfl) h
theorem s3_1s {rm : Room} {S : List Value} {H : AHeap} {Q : Option Value → AHeap → Prop} {l0 l1 l2 l4 : Slot} {x : Int32} (h : W3 rm 2 [l0, l1, .unset, .val (.int x), l4] (S) (H) Q) : W3 rm 1 [l0, l1, l2, .second, l4] (.int x :: S) H Q := W.istore_nS d3_1 rfl (by decide) h
theorem d3_2 : decode jdk_65_method_101_code 2 = .ok (.aload_n 0, 1) := by decide +kernel
theorem s3_2 {rm : Room} {S : List Value} {H : AHeap} {Q : Option Value → AHeap → Prop} {l1 l2 l3 l4 : Slot} {i : Nat} (h : W3 rm 3 [.val (.ref i), l1, l2, l3, l4] (.ref i :: S) (H) Q) : W3 rm 2 [.val (.ref i), l1, l2, l3, l4] (S) H Q := W.aload_n d3_2 rfl rfl h
theorem s3_2n {rm : Room} {S : List Value} {H : AHeap} {Q : Option Value → AHeap → Prop} {l1 l2 l3 l4 : Slot}  (h : W3 rm 3 [.val .null, l1, l2, l3, l4] (.null :: S) (H) Q) : W3 rm 2 [.val .null, l1, l2, l3, l4] (S) H Q := W.aload_n d3_2 rfl rfl h
theorem d3_3 : decode jdk_65_method_101_code 3 = .ok (.arraylength, 1) := by decide +kernel
theorem s3_3 {rm : Room} {S : List Value} {H : AHeap} {Q : Option Value → AHeap → Prop} {l0 l1 l2 l3 l4 : Slot} {i : Nat} {ty : FieldType} {vs : List Value} (hH : H[i]? = some (.inr (ty, vs))) (h : W3 rm 4 [l0, l1, l2, l3, l4] (.int (Int32.ofNat vs.length) :: S) (H) Q) : W3 rm 3 [l0, l1, l2, l3, l4] (.ref i :: S) H Q := W.arraylength d3_3 hH h
theorem s3_3k {rm : Room} {S : List Value} {H : AHeap} {Q : Option Value → AHeap → Prop} {l0 l1 l2 l3 l4 : Slot} {i : Nat} {ty : FieldType} {vs : List Value} (n : Int32) (hH : H[i]? = some (.inr (ty, vs))) (hn : Int32.ofNat vs.length = n) (h : W3 rm 4 [l0, l1, l2, l3, l4] (.int n :: S) (H) Q) : W3 rm 3 [l0, l1, l2, l3, l4] (.ref i :: S) H Q := W.arraylength d3_3 hH (by rw [hn]; exact h)
theorem d3_4 : decode jdk_65_method_101_code 4 = .ok (.istore 4, 2) := by decide +kernel
theorem s3_4 {rm : Room} {S : List Value} {H : AHeap} {Q : Option Value → AHeap → Prop} {l0 l1 l2 l3 l4 : Slot} {x : Int32} (ho : one l4 = true) (h : W3 rm 6 [l0, l1, l2, l3, .val (.int x)] (S) (H) Q) : W3 rm 4 [l0, l1, l2, l3, l4] (.int x :: S) H Q := W.istore d3_4 rfl ho h
theorem s3_4s {rm : Room} {S : List Value} {H : AHeap} {Q : Option Value → AHeap → Prop} {l0 l1 l2 l3 : Slot} {x : Int32} (h : W3 rm 6 [l0, l1, l2, .unset, .val (.int x)] (S) (H) Q) : W3 rm 4 [l0, l1, l2, l3, .second] (.int x :: S) H Q := W.istoreS d3_4 rfl (by decide) h
theorem d3_6 : decode jdk_65_method_101_code 6 = .ok (.iload_n 3, 1) := by decide +kernel
theorem s3_6 {rm : Room} {S : List Value} {H : AHeap} {Q : Option Value → AHeap → Prop} {l0 l1 l2 l4 : Slot} {x : Int32} (h : W3 rm 7 [l0, l1, l2, .val (.int x), l4] (.int x :: S) (H) Q) : W3 rm 6 [l0, l1, l2, .val (.int x), l4] (S) H Q := W.iload_n d3_6 rfl h
theorem d3_7 : decode jdk_65_method_101_code 7 = .ok (.iload 4, 2) := by decide +kernel
theorem s3_7 {rm : Room} {S : List Value} {H : AHeap} {Q : Option Value → AHeap → Prop} {l0 l1 l2 l3 : Slot} {x : Int32} (h : W3 rm 9 [l0, l1, l2, l3, .val (.int x)] (.int x :: S) (H) Q) : W3 rm 7 [l0, l1, l2, l3, .val (.int x)] (S) H Q := W.iload d3_7 rfl h
theorem d3_9 : decode jdk_65_method_101_code 9 = .ok (.if_icmp .ge 13, 3) := by decide +kernel
theorem s3_9 {rm : Room} {S : List Value} {H : AHeap} {Q : Option Value → AHeap → Prop} {l0 l1 l2 l3 l4 : Slot} {x y : Int32} (h1 : ¬ x < y → W3 rm 22 [l0, l1, l2, l3, l4] S H Q) (h2 : x < y → W3 rm 12 [l0, l1, l2, l3, l4] S H Q) : W3 rm 9 [l0, l1, l2, l3, l4] (.int y :: .int x :: S) H Q := W.icmp d3_9 (by decide) (by decide) h1 h2
theorem d3_12 : decode jdk_65_method_101_code 12 = .ok (.aload_n 0, 1) := by decide +kernel
theorem s3_12 {rm : Room} {S : List Value} {H : AHeap} {Q : Option Value → AHeap → Prop} {l1 l2 l3 l4 : Slot} {i : Nat} (h : W3 rm 13 [.val (.ref i), l1, l2, l3, l4] (.ref i :: S) (H) Q) : W3 rm 12 [.val (.ref i), l1, l2, l3, l4] (S) H Q := W.aload_n d3_12 rfl rfl h
theorem s3_12n {rm : Room} {S : List Value} {H : AHeap} {Q : Option Value → AHeap → Prop} {l1 l2 l3 l4 : Slot}  (h : W3 rm 13 [.val .null, l1, l2, l3, l4] (.null :: S) (H) Q) : W3 rm 12 [.val .null, l1, l2, l3, l4] (S) H Q := W.aload_n d3_12 rfl rfl h
theorem d3_13 : decode jdk_65_method_101_code 13 = .ok (.iload_n 3, 1) := by decide +kernel
theorem s3_13 {rm : Room} {S : List Value} {H : AHeap} {Q : Option Value → AHeap → Prop} {l0 l1 l2 l4 : Slot} {x : Int32} (h : W3 rm 14 [l0, l1, l2, .val (.int x), l4] (.int x :: S) (H) Q) : W3 rm 13 [l0, l1, l2, .val (.int x), l4] (S) H Q := W.iload_n d3_13 rfl h
theorem d3_14 : decode jdk_65_method_101_code 14 = .ok (.lload_n 1, 1) := by decide +kernel
theorem s3_14 {rm : Room} {S : List Value} {H : AHeap} {Q : Option Value → AHeap → Prop} {l0 l2 l3 l4 : Slot} {x : Int64} (h : W3 rm 15 [l0, .val (.long x), l2, l3, l4] (.long x :: S) (H) Q) : W3 rm 14 [l0, .val (.long x), l2, l3, l4] (S) H Q := W.lload_n d3_14 rfl h
theorem d3_15 : decode jdk_65_method_101_code 15 = .ok (.lastore, 1) := by decide +kernel
theorem s3_15 {rm : Room} {S : List Value} {H : AHeap} {Q : Option Value → AHeap → Prop} {l0 l1 l2 l3 l4 : Slot} {i : Nat} {j : Int32} {x : Int64} {vs : List Value} (N : Nat) (hH : H[i]? = some (.inr (.long, vs))) (hj : ix j N) (hl : Nat.blt N vs.length = true) (h : W3 rm 16 [l0, l1, l2, l3, l4] (S) (H.set i (.inr (.long, vs.set N (.long x)))) Q) : W3 rm 15 [l0, l1, l2, l3, l4] (.long x :: .int j :: .ref i :: S) H Q := W.lastore d3_15 hH hj hl h
theorem d3_16 : decode jdk_65_method_101_code 16 = .ok (.iinc 3 1, 3) := by decide +kernel
theorem s3_16 {rm : Room} {S : List Value} {H : AHeap} {Q : Option Value → AHeap → Prop} {l0 l1 l2 l4 : Slot} {x : Int32} (h : W3 rm 19 [l0, l1, l2, .val (.int (x + 1)), l4] (S) (H) Q) : W3 rm 16 [l0, l1, l2, .val (.int x), l4] (S) H Q := W.iinc d3_16 (by decide) rfl h
theorem d3_19 : decode jdk_65_method_101_code 19 = .ok (.goto (-13), 3) := by decide +kernel
theorem s3_19 {rm : Room} {S : List Value} {H : AHeap} {Q : Option Value → AHeap → Prop} {l0 l1 l2 l3 l4 : Slot}  (h : W3 rm 6 [l0, l1, l2, l3, l4] (S) (H) Q) : W3 rm 19 [l0, l1, l2, l3, l4] (S) H Q := W.goto d3_19 (by decide) (by decide) h
theorem d3_22 : decode jdk_65_method_101_code 22 = .ok (.return_, 1) := by decide +kernel
theorem s3_22 {rm : Room} {H : AHeap} {Q : Option Value → AHeap → Prop} {l0 l1 l2 l3 l4 : Slot} (hQ : Q none H) : W3 rm 22 [l0, l1, l2, l3, l4] [] H Q := W.ret_ d3_22 rfl hQ
theorem e4 {rm : Room} {H : AHeap} {Q : Option Value → AHeap → Prop} {a0 : Nat} {a1 : Int32} (h : W4 rm 0 [.val (.ref a0), .val (.int a1)] [] H Q) : M4 rm [.ref a0, .int a1] H Q := M.of pf4 rfl rfl h
theorem e4L {rm : Room} {H : AHeap} {Q : Option Value → AHeap → Prop} {L : List Slot} {as : List Value} (h : W4 rm 0 L [] H Q) (hl : ent as ++ List.replicate (2 - (ent as).length) .unset = L := by rfl) (hn : L.length = 2 := by rfl) : M4 rm as H Q := M.of pf4 hl hn h
theorem d4_0 : decode prog_40_method_3_code 0 = .ok (.aload_n 0, 1) := by decide +kernel
theorem s4_0 {rm : Room} {S : List Value} {H : AHeap} {Q : Option Value → AHeap → Prop} {l1 : Slot} {i : Nat} (h : W4 rm 1 [.val (.ref i), l1] (.ref i :: S) (H) Q) : W4 rm 0 [.val (.ref i), l1] (S) H Q := W.aload_n d4_0 rfl rfl h
theorem s4_0n {rm : Room} {S : List Value} {H : AHeap} {Q : Option Value → AHeap → Prop} {l1 : Slot}  (h : W4 rm 1 [.val .null, l1] (.null :: S) (H) Q) : W4 rm 0 [.val .null, l1] (S) H Q := W.aload_n d4_0 rfl rfl h
theorem d4_1 : decode prog_40_method_3_code 1 = .ok (.iload_n 1, 1) := by decide +kernel
theorem s4_1 {rm : Room} {S : List Value} {H : AHeap} {Q : Option Value → AHeap → Prop} {l0 : Slot} {x : Int32} (h : W4 rm 2 [l0, .val (.int x)] (.int x :: S) (H) Q) : W4 rm 1 [l0, .val (.int x)] (S) H Q := W.iload_n d4_1 rfl h
theorem d4_2 : decode prog_40_method_3_code 2 = .ok (.i2l, 1) := by decide +kernel
theorem s4_2 {rm : Room} {S : List Value} {H : AHeap} {Q : Option Value → AHeap → Prop} {l0 l1 : Slot} {x : Int32} (h : W4 rm 3 [l0, l1] (.long x.toInt64 :: S) (H) Q) : W4 rm 2 [l0, l1] (.int x :: S) H Q := W.i2l d4_2 h
theorem d4_3 : decode prog_40_method_3_code 3 = .ok (.putfield 37, 3) := by decide +kernel
theorem s4_3 {rm : Room} {S : List Value} {H : AHeap} {Q : Option Value → AHeap → Prop} {l0 l1 : Slot} {i : Nat} {f0 f1 f2 f3 f4 f5 f6 f7 f8 : Value} {x : Int64} (hH : H[i]? = some (.inl (0, [f0, f1, f2, f3, f4, f5, f6, f7, f8]))) (h : W4 rm 6 [l0, l1] (S) (H.set i (.inl (0, [f0, f1, f2, f3, f4, f5, f6, f7, .long x]))) Q) : W4 rm 3 [l0, l1] (.long x :: .ref i :: S) H Q := W.putF (c := 0) (j := 8) kt d4_3 (host := "") (Or.inl (List.mem_of_getElem? (i := 44) rfl)) (Or.inl rfl) rfl rfl (Or.inl (List.mem_of_getElem? (i := 45) rfl)) rfl rfl hH h
theorem d4_6 : decode prog_40_method_3_code 6 = .ok (.return_, 1) := by decide +kernel
theorem s4_6 {rm : Room} {H : AHeap} {Q : Option Value → AHeap → Prop} {l0 l1 : Slot} (hQ : Q none H) : W4 rm 6 [l0, l1] [] H Q := W.ret_ d4_6 rfl hQ
theorem e5 {rm : Room} {H : AHeap} {Q : Option Value → AHeap → Prop} {a0 : Nat} {a1 : Int32} {a2 : Int32} {a3 : Int32} (h : W5 rm 0 [.val (.ref a0), .val (.int a1), .val (.int a2), .val (.int a3), .unset] [] H Q) : M5 rm [.ref a0, .int a1, .int a2, .int a3] H Q := M.of pf5 rfl rfl h
theorem e5L {rm : Room} {H : AHeap} {Q : Option Value → AHeap → Prop} {L : List Slot} {as : List Value} (h : W5 rm 0 L [] H Q) (hl : ent as ++ List.replicate (5 - (ent as).length) .unset = L := by rfl) (hn : L.length = 5 := by rfl) : M5 rm as H Q := M.of pf5 hl hn h
theorem d5_0 : decode prog_40_method_5_code 0 = .ok (.aload_n 0, 1) := by decide +kernel
theorem s5_0 {rm : Room} {S : List Value} {H : AHeap} {Q : Option Value → AHeap → Prop} {l1 l2 l3 l4 : Slot} {i : Nat} (h : W5 rm 1 [.val (.ref i), l1, l2, l3, l4] (.ref i :: S) (H) Q) : W5 rm 0 [.val (.ref i), l1, l2, l3, l4] (S) H Q := W.aload_n d5_0 rfl rfl h
theorem s5_0n {rm : Room} {S : List Value} {H : AHeap} {Q : Option Value → AHeap → Prop} {l1 l2 l3 l4 : Slot}  (h : W5 rm 1 [.val .null, l1, l2, l3, l4] (.null :: S) (H) Q) : W5 rm 0 [.val .null, l1, l2, l3, l4] (S) H Q := W.aload_n d5_0 rfl rfl h
theorem d5_1 : decode prog_40_method_5_code 1 = .ok (.getfield 15, 3) := by decide +kernel
theorem s5_1 {rm : Room} {S : List Value} {H : AHeap} {Q : Option Value → AHeap → Prop} {l0 l1 l2 l3 l4 : Slot} {i : Nat} {f0 f1 f2 f3 f4 f5 f6 f7 f8 : Value} (hH : H[i]? = some (.inl (0, [f0, f1, f2, f3, f4, f5, f6, f7, f8]))) (h : W5 rm 4 [l0, l1, l2, l3, l4] (f5 :: S) (H) Q) : W5 rm 1 [l0, l1, l2, l3, l4] (.ref i :: S) H Q := W.getF (c := 0) (j := 5) d5_1 (host := "") (Or.inl (List.mem_of_getElem? (i := 26) rfl)) (Or.inl rfl) rfl rfl hH rfl h
theorem d5_4 : decode prog_40_method_5_code 4 = .ok (.iload_n 1, 1) := by decide +kernel
theorem s5_4 {rm : Room} {S : List Value} {H : AHeap} {Q : Option Value → AHeap → Prop} {l0 l2 l3 l4 : Slot} {x : Int32} (h : W5 rm 5 [l0, .val (.int x), l2, l3, l4] (.int x :: S) (H) Q) : W5 rm 4 [l0, .val (.int x), l2, l3, l4] (S) H Q := W.iload_n d5_4 rfl h
theorem d5_5 : decode prog_40_method_5_code 5 = .ok (.iaload, 1) := by decide +kernel
theorem s5_5 {rm : Room} {S : List Value} {H : AHeap} {Q : Option Value → AHeap → Prop} {l0 l1 l2 l3 l4 : Slot} {i : Nat} {j : Int32} {vs : List Value} {v : Value} (N : Nat) (hH : H[i]? = some (.inr (.int, vs))) (hj : ix j N) (hv : vs[N]? = some v) (h : W5 rm 6 [l0, l1, l2, l3, l4] (v :: S) (H) Q) : W5 rm 5 [l0, l1, l2, l3, l4] (.int j :: .ref i :: S) H Q := W.xaload (Or.inl ⟨rfl, rfl⟩) d5_5 hH hj hv h
theorem d5_6 : decode prog_40_method_5_code 6 = .ok (.iload_n 2, 1) := by decide +kernel
theorem s5_6 {rm : Room} {S : List Value} {H : AHeap} {Q : Option Value → AHeap → Prop} {l0 l1 l3 l4 : Slot} {x : Int32} (h : W5 rm 7 [l0, l1, .val (.int x), l3, l4] (.int x :: S) (H) Q) : W5 rm 6 [l0, l1, .val (.int x), l3, l4] (S) H Q := W.iload_n d5_6 rfl h
theorem d5_7 : decode prog_40_method_5_code 7 = .ok (.iadd, 1) := by decide +kernel
theorem s5_7 {rm : Room} {S : List Value} {H : AHeap} {Q : Option Value → AHeap → Prop} {l0 l1 l2 l3 l4 : Slot} {x y : Int32} (h : W5 rm 8 [l0, l1, l2, l3, l4] (.int (x + y) :: S) (H) Q) : W5 rm 7 [l0, l1, l2, l3, l4] (.int y :: .int x :: S) H Q := W.iadd d5_7 h
theorem d5_8 : decode prog_40_method_5_code 8 = .ok (.istore 4, 2) := by decide +kernel
theorem s5_8 {rm : Room} {S : List Value} {H : AHeap} {Q : Option Value → AHeap → Prop} {l0 l1 l2 l3 l4 : Slot} {x : Int32} (ho : one l4 = true) (h : W5 rm 10 [l0, l1, l2, l3, .val (.int x)] (S) (H) Q) : W5 rm 8 [l0, l1, l2, l3, l4] (.int x :: S) H Q := W.istore d5_8 rfl ho h
theorem s5_8s {rm : Room} {S : List Value} {H : AHeap} {Q : Option Value → AHeap → Prop} {l0 l1 l2 l3 : Slot} {x : Int32} (h : W5 rm 10 [l0, l1, l2, .unset, .val (.int x)] (S) (H) Q) : W5 rm 8 [l0, l1, l2, l3, .second] (.int x :: S) H Q := W.istoreS d5_8 rfl (by decide) h
theorem d5_10 : decode prog_40_method_5_code 10 = .ok (.aload_n 0, 1) := by decide +kernel
theorem s5_10 {rm : Room} {S : List Value} {H : AHeap} {Q : Option Value → AHeap → Prop} {l1 l2 l3 l4 : Slot} {i : Nat} (h : W5 rm 11 [.val (.ref i), l1, l2, l3, l4] (.ref i :: S) (H) Q) : W5 rm 10 [.val (.ref i), l1, l2, l3, l4] (S) H Q := W.aload_n d5_10 rfl rfl h
theorem s5_10n {rm : Room} {S : List Value} {H : AHeap} {Q : Option Value → AHeap → Prop} {l1 l2 l3 l4 : Slot}  (h : W5 rm 11 [.val .null, l1, l2, l3, l4] (.null :: S) (H) Q) : W5 rm 10 [.val .null, l1, l2, l3, l4] (S) H Q := W.aload_n d5_10 rfl rfl h
theorem d5_11 : decode prog_40_method_5_code 11 = .ok (.getfield 22, 3) := by decide +kernel
theorem s5_11 {rm : Room} {S : List Value} {H : AHeap} {Q : Option Value → AHeap → Prop} {l0 l1 l2 l3 l4 : Slot} {i : Nat} {f0 f1 f2 f3 f4 f5 f6 f7 f8 : Value} (hH : H[i]? = some (.inl (0, [f0, f1, f2, f3, f4, f5, f6, f7, f8]))) (h : W5 rm 14 [l0, l1, l2, l3, l4] (f6 :: S) (H) Q) : W5 rm 11 [l0, l1, l2, l3, l4] (.ref i :: S) H Q := W.getF (c := 0) (j := 6) d5_11 (host := "") (Or.inl (List.mem_of_getElem? (i := 30) rfl)) (Or.inl rfl) rfl rfl hH rfl h
theorem d5_14 : decode prog_40_method_5_code 14 = .ok (.iload 4, 2) := by decide +kernel
theorem s5_14 {rm : Room} {S : List Value} {H : AHeap} {Q : Option Value → AHeap → Prop} {l0 l1 l2 l3 : Slot} {x : Int32} (h : W5 rm 16 [l0, l1, l2, l3, .val (.int x)] (.int x :: S) (H) Q) : W5 rm 14 [l0, l1, l2, l3, .val (.int x)] (S) H Q := W.iload d5_14 rfl h
theorem d5_16 : decode prog_40_method_5_code 16 = .ok (.aload_n 0, 1) := by decide +kernel
theorem s5_16 {rm : Room} {S : List Value} {H : AHeap} {Q : Option Value → AHeap → Prop} {l1 l2 l3 l4 : Slot} {i : Nat} (h : W5 rm 17 [.val (.ref i), l1, l2, l3, l4] (.ref i :: S) (H) Q) : W5 rm 16 [.val (.ref i), l1, l2, l3, l4] (S) H Q := W.aload_n d5_16 rfl rfl h
theorem s5_16n {rm : Room} {S : List Value} {H : AHeap} {Q : Option Value → AHeap → Prop} {l1 l2 l3 l4 : Slot}  (h : W5 rm 17 [.val .null, l1, l2, l3, l4] (.null :: S) (H) Q) : W5 rm 16 [.val .null, l1, l2, l3, l4] (S) H Q := W.aload_n d5_16 rfl rfl h
theorem d5_17 : decode prog_40_method_5_code 17 = .ok (.getfield 22, 3) := by decide +kernel
theorem s5_17 {rm : Room} {S : List Value} {H : AHeap} {Q : Option Value → AHeap → Prop} {l0 l1 l2 l3 l4 : Slot} {i : Nat} {f0 f1 f2 f3 f4 f5 f6 f7 f8 : Value} (hH : H[i]? = some (.inl (0, [f0, f1, f2, f3, f4, f5, f6, f7, f8]))) (h : W5 rm 20 [l0, l1, l2, l3, l4] (f6 :: S) (H) Q) : W5 rm 17 [l0, l1, l2, l3, l4] (.ref i :: S) H Q := W.getF (c := 0) (j := 6) d5_17 (host := "") (Or.inl (List.mem_of_getElem? (i := 30) rfl)) (Or.inl rfl) rfl rfl hH rfl h
theorem d5_20 : decode prog_40_method_5_code 20 = .ok (.iload 4, 2) := by decide +kernel
theorem s5_20 {rm : Room} {S : List Value} {H : AHeap} {Q : Option Value → AHeap → Prop} {l0 l1 l2 l3 : Slot} {x : Int32} (h : W5 rm 22 [l0, l1, l2, l3, .val (.int x)] (.int x :: S) (H) Q) : W5 rm 20 [l0, l1, l2, l3, .val (.int x)] (S) H Q := W.iload d5_20 rfl h
theorem d5_22 : decode prog_40_method_5_code 22 = .ok (.laload, 1) := by decide +kernel
theorem s5_22 {rm : Room} {S : List Value} {H : AHeap} {Q : Option Value → AHeap → Prop} {l0 l1 l2 l3 l4 : Slot} {i : Nat} {j : Int32} {vs : List Value} {v : Value} (N : Nat) (hH : H[i]? = some (.inr (.long, vs))) (hj : ix j N) (hv : vs[N]? = some v) (h : W5 rm 23 [l0, l1, l2, l3, l4] (v :: S) (H) Q) : W5 rm 22 [l0, l1, l2, l3, l4] (.int j :: .ref i :: S) H Q := W.xaload (Or.inr (Or.inl ⟨rfl, rfl⟩)) d5_22 hH hj hv h
theorem d5_23 : decode prog_40_method_5_code 23 = .ok (.iload_n 3, 1) := by decide +kernel
theorem s5_23 {rm : Room} {S : List Value} {H : AHeap} {Q : Option Value → AHeap → Prop} {l0 l1 l2 l4 : Slot} {x : Int32} (h : W5 rm 24 [l0, l1, l2, .val (.int x), l4] (.int x :: S) (H) Q) : W5 rm 23 [l0, l1, l2, .val (.int x), l4] (S) H Q := W.iload_n d5_23 rfl h
theorem d5_24 : decode prog_40_method_5_code 24 = .ok (.iconst (-1), 1) := by decide +kernel
theorem s5_24 {rm : Room} {S : List Value} {H : AHeap} {Q : Option Value → AHeap → Prop} {l0 l1 l2 l3 l4 : Slot}  (h : W5 rm 25 [l0, l1, l2, l3, l4] (.int (-1) :: S) (H) Q) : W5 rm 24 [l0, l1, l2, l3, l4] (S) H Q := W.iconst' d5_24 (by decide) h
theorem d5_25 : decode prog_40_method_5_code 25 = .ok (.if_icmp .ne 10, 3) := by decide +kernel
theorem s5_25 {rm : Room} {S : List Value} {H : AHeap} {Q : Option Value → AHeap → Prop} {l0 l1 l2 l3 l4 : Slot} {x y : Int32} (h1 : ¬ x = y → W5 rm 35 [l0, l1, l2, l3, l4] S H Q) (h2 : x = y → W5 rm 28 [l0, l1, l2, l3, l4] S H Q) : W5 rm 25 [l0, l1, l2, l3, l4] (.int y :: .int x :: S) H Q := W.icmp d5_25 (by decide) (by decide) h1 h2
theorem d5_28 : decode prog_40_method_5_code 28 = .ok (.aload_n 0, 1) := by decide +kernel
theorem s5_28 {rm : Room} {S : List Value} {H : AHeap} {Q : Option Value → AHeap → Prop} {l1 l2 l3 l4 : Slot} {i : Nat} (h : W5 rm 29 [.val (.ref i), l1, l2, l3, l4] (.ref i :: S) (H) Q) : W5 rm 28 [.val (.ref i), l1, l2, l3, l4] (S) H Q := W.aload_n d5_28 rfl rfl h
theorem s5_28n {rm : Room} {S : List Value} {H : AHeap} {Q : Option Value → AHeap → Prop} {l1 l2 l3 l4 : Slot}  (h : W5 rm 29 [.val .null, l1, l2, l3, l4] (.null :: S) (H) Q) : W5 rm 28 [.val .null, l1, l2, l3, l4] (S) H Q := W.aload_n d5_28 rfl rfl h
theorem d5_29 : decode prog_40_method_5_code 29 = .ok (.getfield 37, 3) := by decide +kernel
theorem s5_29 {rm : Room} {S : List Value} {H : AHeap} {Q : Option Value → AHeap → Prop} {l0 l1 l2 l3 l4 : Slot} {i : Nat} {f0 f1 f2 f3 f4 f5 f6 f7 f8 : Value} (hH : H[i]? = some (.inl (0, [f0, f1, f2, f3, f4, f5, f6, f7, f8]))) (h : W5 rm 32 [l0, l1, l2, l3, l4] (f8 :: S) (H) Q) : W5 rm 29 [l0, l1, l2, l3, l4] (.ref i :: S) H Q := W.getF (c := 0) (j := 8) d5_29 (host := "") (Or.inl (List.mem_of_getElem? (i := 44) rfl)) (Or.inl rfl) rfl rfl hH rfl h
theorem d5_32 : decode prog_40_method_5_code 32 = .ok (.goto 16, 3) := by decide +kernel
theorem s5_32 {rm : Room} {S : List Value} {H : AHeap} {Q : Option Value → AHeap → Prop} {l0 l1 l2 l3 l4 : Slot}  (h : W5 rm 48 [l0, l1, l2, l3, l4] (S) (H) Q) : W5 rm 32 [l0, l1, l2, l3, l4] (S) H Q := W.goto d5_32 (by decide) (by decide) h
theorem d5_35 : decode prog_40_method_5_code 35 = .ok (.aload_n 0, 1) := by decide +kernel
theorem s5_35 {rm : Room} {S : List Value} {H : AHeap} {Q : Option Value → AHeap → Prop} {l1 l2 l3 l4 : Slot} {i : Nat} (h : W5 rm 36 [.val (.ref i), l1, l2, l3, l4] (.ref i :: S) (H) Q) : W5 rm 35 [.val (.ref i), l1, l2, l3, l4] (S) H Q := W.aload_n d5_35 rfl rfl h
theorem s5_35n {rm : Room} {S : List Value} {H : AHeap} {Q : Option Value → AHeap → Prop} {l1 l2 l3 l4 : Slot}  (h : W5 rm 36 [.val .null, l1, l2, l3, l4] (.null :: S) (H) Q) : W5 rm 35 [.val .null, l1, l2, l3, l4] (S) H Q := W.aload_n d5_35 rfl rfl h
theorem d5_36 : decode prog_40_method_5_code 36 = .ok (.getfield 22, 3) := by decide +kernel
theorem s5_36 {rm : Room} {S : List Value} {H : AHeap} {Q : Option Value → AHeap → Prop} {l0 l1 l2 l3 l4 : Slot} {i : Nat} {f0 f1 f2 f3 f4 f5 f6 f7 f8 : Value} (hH : H[i]? = some (.inl (0, [f0, f1, f2, f3, f4, f5, f6, f7, f8]))) (h : W5 rm 39 [l0, l1, l2, l3, l4] (f6 :: S) (H) Q) : W5 rm 36 [l0, l1, l2, l3, l4] (.ref i :: S) H Q := W.getF (c := 0) (j := 6) d5_36 (host := "") (Or.inl (List.mem_of_getElem? (i := 30) rfl)) (Or.inl rfl) rfl rfl hH rfl h
theorem d5_39 : decode prog_40_method_5_code 39 = .ok (.aload_n 0, 1) := by decide +kernel
theorem s5_39 {rm : Room} {S : List Value} {H : AHeap} {Q : Option Value → AHeap → Prop} {l1 l2 l3 l4 : Slot} {i : Nat} (h : W5 rm 40 [.val (.ref i), l1, l2, l3, l4] (.ref i :: S) (H) Q) : W5 rm 39 [.val (.ref i), l1, l2, l3, l4] (S) H Q := W.aload_n d5_39 rfl rfl h
theorem s5_39n {rm : Room} {S : List Value} {H : AHeap} {Q : Option Value → AHeap → Prop} {l1 l2 l3 l4 : Slot}  (h : W5 rm 40 [.val .null, l1, l2, l3, l4] (.null :: S) (H) Q) : W5 rm 39 [.val .null, l1, l2, l3, l4] (S) H Q := W.aload_n d5_39 rfl rfl h
theorem d5_40 : decode prog_40_method_5_code 40 = .ok (.getfield 15, 3) := by decide +kernel
theorem s5_40 {rm : Room} {S : List Value} {H : AHeap} {Q : Option Value → AHeap → Prop} {l0 l1 l2 l3 l4 : Slot} {i : Nat} {f0 f1 f2 f3 f4 f5 f6 f7 f8 : Value} (hH : H[i]? = some (.inl (0, [f0, f1, f2, f3, f4, f5, f6, f7, f8]))) (h : W5 rm 43 [l0, l1, l2, l3, l4] (f5 :: S) (H) Q) : W5 rm 40 [l0, l1, l2, l3, l4] (.ref i :: S) H Q := W.getF (c := 0) (j := 5) d5_40 (host := "") (Or.inl (List.mem_of_getElem? (i := 26) rfl)) (Or.inl rfl) rfl rfl hH rfl h
theorem d5_43 : decode prog_40_method_5_code 43 = .ok (.iload_n 1, 1) := by decide +kernel
theorem s5_43 {rm : Room} {S : List Value} {H : AHeap} {Q : Option Value → AHeap → Prop} {l0 l2 l3 l4 : Slot} {x : Int32} (h : W5 rm 44 [l0, .val (.int x), l2, l3, l4] (.int x :: S) (H) Q) : W5 rm 43 [l0, .val (.int x), l2, l3, l4] (S) H Q := W.iload_n d5_43 rfl h
theorem d5_44 : decode prog_40_method_5_code 44 = .ok (.iaload, 1) := by decide +kernel
theorem s5_44 {rm : Room} {S : List Value} {H : AHeap} {Q : Option Value → AHeap → Prop} {l0 l1 l2 l3 l4 : Slot} {i : Nat} {j : Int32} {vs : List Value} {v : Value} (N : Nat) (hH : H[i]? = some (.inr (.int, vs))) (hj : ix j N) (hv : vs[N]? = some v) (h : W5 rm 45 [l0, l1, l2, l3, l4] (v :: S) (H) Q) : W5 rm 44 [l0, l1, l2, l3, l4] (.int j :: .ref i :: S) H Q := W.xaload (Or.inl ⟨rfl, rfl⟩) d5_44 hH hj hv h
theorem d5_45 : decode prog_40_method_5_code 45 = .ok (.iload_n 3, 1) := by decide +kernel
theorem s5_45 {rm : Room} {S : List Value} {H : AHeap} {Q : Option Value → AHeap → Prop} {l0 l1 l2 l4 : Slot} {x : Int32} (h : W5 rm 46 [l0, l1, l2, .val (.int x), l4] (.int x :: S) (H) Q) : W5 rm 45 [l0, l1, l2, .val (.int x), l4] (S) H Q := W.iload_n d5_45 rfl h
theorem d5_46 : decode prog_40_method_5_code 46 = .ok (.iadd, 1) := by decide +kernel
theorem s5_46 {rm : Room} {S : List Value} {H : AHeap} {Q : Option Value → AHeap → Prop} {l0 l1 l2 l3 l4 : Slot} {x y : Int32} (h : W5 rm 47 [l0, l1, l2, l3, l4] (.int (x + y) :: S) (H) Q) : W5 rm 46 [l0, l1, l2, l3, l4] (.int y :: .int x :: S) H Q := W.iadd d5_46 h
theorem d5_47 : decode prog_40_method_5_code 47 = .ok (.laload, 1) := by decide +kernel
theorem s5_47 {rm : Room} {S : List Value} {H : AHeap} {Q : Option Value → AHeap → Prop} {l0 l1 l2 l3 l4 : Slot} {i : Nat} {j : Int32} {vs : List Value} {v : Value} (N : Nat) (hH : H[i]? = some (.inr (.long, vs))) (hj : ix j N) (hv : vs[N]? = some v) (h : W5 rm 48 [l0, l1, l2, l3, l4] (v :: S) (H) Q) : W5 rm 47 [l0, l1, l2, l3, l4] (.int j :: .ref i :: S) H Q := W.xaload (Or.inr (Or.inl ⟨rfl, rfl⟩)) d5_47 hH hj hv h
theorem d5_48 : decode prog_40_method_5_code 48 = .ok (.invokestatic 40, 3) := by decide +kernel
theorem s5_48 {rm : Room} {S : List Value} {H : AHeap} {Q : Option Value → AHeap → Prop} {l0 l1 l2 l3 l4 : Slot} {rm' : Room} {H' : AHeap} {a0 : Int64} {a1 : Int64} {r : Int64} (hM : M6 rm' [.long a0, .long a1] H (Is (some (.long r)) H')) (hr : rok rm rm' 4 S = true) (h : W5 (less rm rm') 51 [l0, l1, l2, l3, l4] (.long r :: S) H' Q) : W5 rm 48 [l0, l1, l2, l3, l4] (.long a1 :: .long a0 :: S) H Q := W.callS (S := S) (as := [.long a0, .long a1]) (rm' := rm') d5_48 (List.mem_of_getElem? (i := 51) rfl) (List.mem_of_getElem? (i := 52) rfl) (List.mem_of_getElem? (i := 53) rfl) (List.mem_of_getElem? (i := 54) rfl) (by decide) pd6 rfl rfl hM hr (fun _ _ q => by obtain ⟨rfl, rfl⟩ := q; exact h)
theorem s5_48q {rm : Room} {S : List Value} {H : AHeap} {Q : Option Value → AHeap → Prop} {l0 l1 l2 l3 l4 : Slot} {rm' : Room} {Q' : Option Value → AHeap → Prop} {a0 a1 : Value} (hM : M6 rm' [a0, a1] H Q') (hr : rok rm rm' 4 S = true) (h : ∀ v H', Q' v H' → W5 (less rm rm') 51 [l0, l1, l2, l3, l4] (v.toList ++ S) H' Q) : W5 rm 48 [l0, l1, l2, l3, l4] (a1 :: a0 :: S) H Q := W.callS (S := S) (as := [a0, a1]) (rm' := rm') d5_48 (List.mem_of_getElem? (i := 51) rfl) (List.mem_of_getElem? (i := 52) rfl) (List.mem_of_getElem? (i := 53) rfl) (List.mem_of_getElem? (i := 54) rfl) (by decide) pd6 rfl rfl hM hr h
theorem d5_51 : decode prog_40_method_5_code 51 = .ok (.lastore, 1) := by decide +kernel
theorem s5_51 {rm : Room} {S : List Value} {H : AHeap} {Q : Option Value → AHeap → Prop} {l0 l1 l2 l3 l4 : Slot} {i : Nat} {j : Int32} {x : Int64} {vs : List Value} (N : Nat) (hH : H[i]? = some (.inr (.long, vs))) (hj : ix j N) (hl : Nat.blt N vs.length = true) (h : W5 rm 52 [l0, l1, l2, l3, l4] (S) (H.set i (.inr (.long, vs.set N (.long x)))) Q) : W5 rm 51 [l0, l1, l2, l3, l4] (.long x :: .int j :: .ref i :: S) H Q := W.lastore d5_51 hH hj hl h
theorem d5_52 : decode prog_40_method_5_code 52 = .ok (.return_, 1) := by decide +kernel
theorem s5_52 {rm : Room} {H : AHeap} {Q : Option Value → AHeap → Prop} {l0 l1 l2 l3 l4 : Slot} (hQ : Q none H) : W5 rm 52 [l0, l1, l2, l3, l4] [] H Q := W.ret_ d5_52 rfl hQ
theorem e6 {rm : Room} {H : AHeap} {Q : Option Value → AHeap → Prop} {a0 : Int64} {a1 : Int64} (h : W6 rm 0 [.val (.long a0), .second, .val (.long a1), .second] [] H Q) : M6 rm [.long a0, .long a1] H Q := M.of pf6 rfl rfl h
theorem e6L {rm : Room} {H : AHeap} {Q : Option Value → AHeap → Prop} {L : List Slot} {as : List Value} (h : W6 rm 0 L [] H Q) (hl : ent as ++ List.replicate (4 - (ent as).length) .unset = L := by rfl) (hn : L.length = 4 := by rfl) : M6 rm as H Q := M.of pf6 hl hn h
theorem d6_0 : decode jdk_29_method_70_code 0 = .ok (.lload_n 0, 1) := by decide +kernel
theorem s6_0 {rm : Room} {S : List Value} {H : AHeap} {Q : Option Value → AHeap → Prop} {l1 l2 l3 : Slot} {x : Int64} (h : W6 rm 1 [.val (.long x), l1, l2, l3] (.long x :: S) (H) Q) : W6 rm 0 [.val (.long x), l1, l2, l3] (S) H Q := W.lload_n d6_0 rfl h
theorem d6_1 : decode jdk_29_method_70_code 1 = .ok (.lload_n 2, 1) := by decide +kernel
theorem s6_1 {rm : Room} {S : List Value} {H : AHeap} {Q : Option Value → AHeap → Prop} {l0 l1 l3 : Slot} {x : Int64} (h : W6 rm 2 [l0, l1, .val (.long x), l3] (.long x :: S) (H) Q) : W6 rm 1 [l0, l1, .val (.long x), l3] (S) H Q := W.lload_n d6_1 rfl h
theorem d6_2 : decode jdk_29_method_70_code 2 = .ok (.lcmp, 1) := by decide +kernel
theorem d6_3 : decode jdk_29_method_70_code 3 = .ok (.ifCond .gt 7, 3) := by decide +kernel
theorem s6_3 {rm : Room} {S : List Value} {H : AHeap} {Q : Option Value → AHeap → Prop} {l0 l1 l2 l3 : Slot} {x : Int32} (h1 : 0 < x → W6 rm 10 [l0, l1, l2, l3] S H Q) (h2 : ¬ 0 < x → W6 rm 6 [l0, l1, l2, l3] S H Q) : W6 rm 3 [l0, l1, l2, l3] (.int x :: S) H Q := W.ifc d6_3 (by decide) (by decide) h1 h2
theorem s6_2c {rm : Room} {S : List Value} {H : AHeap} {Q : Option Value → AHeap → Prop} {l0 l1 l2 l3 : Slot} {x y : Int64} (h1 : y < x → W6 rm 10 [l0, l1, l2, l3] S H Q) (h2 : ¬ y < x → W6 rm 6 [l0, l1, l2, l3] S H Q) : W6 rm 2 [l0, l1, l2, l3] (.long y :: .long x :: S) H Q := W.lcif d6_2 rfl d6_3 (by decide) (by decide) h1 h2
theorem d6_6 : decode jdk_29_method_70_code 6 = .ok (.lload_n 0, 1) := by decide +kernel
theorem s6_6 {rm : Room} {S : List Value} {H : AHeap} {Q : Option Value → AHeap → Prop} {l1 l2 l3 : Slot} {x : Int64} (h : W6 rm 7 [.val (.long x), l1, l2, l3] (.long x :: S) (H) Q) : W6 rm 6 [.val (.long x), l1, l2, l3] (S) H Q := W.lload_n d6_6 rfl h
theorem d6_7 : decode jdk_29_method_70_code 7 = .ok (.goto 4, 3) := by decide +kernel
theorem s6_7 {rm : Room} {S : List Value} {H : AHeap} {Q : Option Value → AHeap → Prop} {l0 l1 l2 l3 : Slot}  (h : W6 rm 11 [l0, l1, l2, l3] (S) (H) Q) : W6 rm 7 [l0, l1, l2, l3] (S) H Q := W.goto d6_7 (by decide) (by decide) h
theorem d6_10 : decode jdk_29_method_70_code 10 = .ok (.lload_n 2, 1) := by decide +kernel
theorem s6_10 {rm : Room} {S : List Value} {H : AHeap} {Q : Option Value → AHeap → Prop} {l0 l1 l3 : Slot} {x : Int64} (h : W6 rm 11 [l0, l1, .val (.long x), l3] (.long x :: S) (H) Q) : W6 rm 10 [l0, l1, .val (.long x), l3] (S) H Q := W.lload_n d6_10 rfl h
theorem d6_11 : decode jdk_29_method_70_code 11 = .ok (.lreturn, 1) := by decide +kernel
theorem s6_11 {rm : Room} {S : List Value} {H : AHeap} {Q : Option Value → AHeap → Prop} {l0 l1 l2 l3 : Slot} {x : Int64} (hQ : Q (some (.long x)) H) : W6 rm 11 [l0, l1, l2, l3] (.long x :: S) H Q := W.lreturn d6_11 rfl hQ
theorem e7 {rm : Room} {H : AHeap} {Q : Option Value → AHeap → Prop} {a0 : Nat} {a1 : Int32} {a2 : Int32} (h : W7 rm 0 [.val (.ref a0), .val (.int a1), .val (.int a2), .unset, .unset] [] H Q) : M7 rm [.ref a0, .int a1, .int a2] H Q := M.of pf7 rfl rfl h
theorem e7L {rm : Room} {H : AHeap} {Q : Option Value → AHeap → Prop} {L : List Slot} {as : List Value} (h : W7 rm 0 L [] H Q) (hl : ent as ++ List.replicate (5 - (ent as).length) .unset = L := by rfl) (hn : L.length = 5 := by rfl) : M7 rm as H Q := M.of pf7 hl hn h
theorem d7_0 : decode prog_40_method_13_code 0 = .ok (.iconst 0, 1) := by decide +kernel
theorem s7_0 {rm : Room} {S : List Value} {H : AHeap} {Q : Option Value → AHeap → Prop} {l0 l1 l2 l3 l4 : Slot}  (h : W7 rm 1 [l0, l1, l2, l3, l4] (.int 0 :: S) (H) Q) : W7 rm 0 [l0, l1, l2, l3, l4] (S) H Q := W.iconst' d7_0 (by decide) h
theorem d7_1 : decode prog_40_method_13_code 1 = .ok (.istore_n 3, 1) := by decide +kernel
theorem s7_1 {rm : Room} {S : List Value} {H : AHeap} {Q : Option Value → AHeap → Prop} {l0 l1 l2 l3 l4 : Slot} {x : Int32} (ho : one l3 = true) (h : W7 rm 2 [l0, l1, l2, .val (.int x), l4] (S) (H) Q) : W7 rm 1 [l0, l1, l2, l3, l4] (.int x :: S) H Q := W.istore_n d7_1 rfl ho h
theorem s7_1w {rm : Room} {S : List Value} {H : AHeap} {Q : Option Value → AHeap → Prop} {l0 l1 l2 l4 : Slot} {w : Value} {x : Int32} (ho : w.category = 2) (h : W7 rm 2 [l0, l1, l2, .val (.int x), .unset] (S) (H) Q) : W7 rm 1 [l0, l1, l2, .val w, l4] (.int x :: S) H Q := W.istore_nW d7_1 rfl ho (Nat.le_of_ble_eq_true rfl) h
theorem s7_1s {rm : Room} {S : List Value} {H : AHeap} {Q : Option Value → AHeap → Prop} {l0 l1 l2 l4 : Slot} {x : Int32} (h : W7 rm 2 [l0, l1, .unset, .val (.int x), l4] (S) (H) Q) : W7 rm 1 [l0, l1, l2, .second, l4] (.int x :: S) H Q := W.istore_nS d7_1 rfl (by decide) h
theorem d7_2 : decode prog_40_method_13_code 2 = .ok (.aload_n 0, 1) := by decide +kernel
theorem s7_2 {rm : Room} {S : List Value} {H : AHeap} {Q : Option Value → AHeap → Prop} {l1 l2 l3 l4 : Slot} {i : Nat} (h : W7 rm 3 [.val (.ref i), l1, l2, l3, l4] (.ref i :: S) (H) Q) : W7 rm 2 [.val (.ref i), l1, l2, l3, l4] (S) H Q := W.aload_n d7_2 rfl rfl h
theorem s7_2n {rm : Room} {S : List Value} {H : AHeap} {Q : Option Value → AHeap → Prop} {l1 l2 l3 l4 : Slot}  (h : W7 rm 3 [.val .null, l1, l2, l3, l4] (.null :: S) (H) Q) : W7 rm 2 [.val .null, l1, l2, l3, l4] (S) H Q := W.aload_n d7_2 rfl rfl h
theorem d7_3 : decode prog_40_method_13_code 3 = .ok (.getfield 15, 3) := by decide +kernel
theorem s7_3 {rm : Room} {S : List Value} {H : AHeap} {Q : Option Value → AHeap → Prop} {l0 l1 l2 l3 l4 : Slot} {i : Nat} {f0 f1 f2 f3 f4 f5 f6 f7 f8 : Value} (hH : H[i]? = some (.inl (0, [f0, f1, f2, f3, f4, f5, f6, f7, f8]))) (h : W7 rm 6 [l0, l1, l2, l3, l4] (f5 :: S) (H) Q) : W7 rm 3 [l0, l1, l2, l3, l4] (.ref i :: S) H Q := W.getF (c := 0) (j := 5) d7_3 (host := "") (Or.inl (List.mem_of_getElem? (i := 26) rfl)) (Or.inl rfl) rfl rfl hH rfl h
theorem d7_6 : decode prog_40_method_13_code 6 = .ok (.iload_n 1, 1) := by decide +kernel
theorem s7_6 {rm : Room} {S : List Value} {H : AHeap} {Q : Option Value → AHeap → Prop} {l0 l2 l3 l4 : Slot} {x : Int32} (h : W7 rm 7 [l0, .val (.int x), l2, l3, l4] (.int x :: S) (H) Q) : W7 rm 6 [l0, .val (.int x), l2, l3, l4] (S) H Q := W.iload_n d7_6 rfl h
theorem d7_7 : decode prog_40_method_13_code 7 = .ok (.iaload, 1) := by decide +kernel
theorem s7_7 {rm : Room} {S : List Value} {H : AHeap} {Q : Option Value → AHeap → Prop} {l0 l1 l2 l3 l4 : Slot} {i : Nat} {j : Int32} {vs : List Value} {v : Value} (N : Nat) (hH : H[i]? = some (.inr (.int, vs))) (hj : ix j N) (hv : vs[N]? = some v) (h : W7 rm 8 [l0, l1, l2, l3, l4] (v :: S) (H) Q) : W7 rm 7 [l0, l1, l2, l3, l4] (.int j :: .ref i :: S) H Q := W.xaload (Or.inl ⟨rfl, rfl⟩) d7_7 hH hj hv h
theorem d7_8 : decode prog_40_method_13_code 8 = .ok (.istore 4, 2) := by decide +kernel
theorem s7_8 {rm : Room} {S : List Value} {H : AHeap} {Q : Option Value → AHeap → Prop} {l0 l1 l2 l3 l4 : Slot} {x : Int32} (ho : one l4 = true) (h : W7 rm 10 [l0, l1, l2, l3, .val (.int x)] (S) (H) Q) : W7 rm 8 [l0, l1, l2, l3, l4] (.int x :: S) H Q := W.istore d7_8 rfl ho h
theorem s7_8s {rm : Room} {S : List Value} {H : AHeap} {Q : Option Value → AHeap → Prop} {l0 l1 l2 l3 : Slot} {x : Int32} (h : W7 rm 10 [l0, l1, l2, .unset, .val (.int x)] (S) (H) Q) : W7 rm 8 [l0, l1, l2, l3, .second] (.int x :: S) H Q := W.istoreS d7_8 rfl (by decide) h
theorem d7_10 : decode prog_40_method_13_code 10 = .ok (.iload 4, 2) := by decide +kernel
theorem s7_10 {rm : Room} {S : List Value} {H : AHeap} {Q : Option Value → AHeap → Prop} {l0 l1 l2 l3 : Slot} {x : Int32} (h : W7 rm 12 [l0, l1, l2, l3, .val (.int x)] (.int x :: S) (H) Q) : W7 rm 10 [l0, l1, l2, l3, .val (.int x)] (S) H Q := W.iload d7_10 rfl h
theorem d7_12 : decode prog_40_method_13_code 12 = .ok (.aload_n 0, 1) := by decide +kernel
theorem s7_12 {rm : Room} {S : List Value} {H : AHeap} {Q : Option Value → AHeap → Prop} {l1 l2 l3 l4 : Slot} {i : Nat} (h : W7 rm 13 [.val (.ref i), l1, l2, l3, l4] (.ref i :: S) (H) Q) : W7 rm 12 [.val (.ref i), l1, l2, l3, l4] (S) H Q := W.aload_n d7_12 rfl rfl h
theorem s7_12n {rm : Room} {S : List Value} {H : AHeap} {Q : Option Value → AHeap → Prop} {l1 l2 l3 l4 : Slot}  (h : W7 rm 13 [.val .null, l1, l2, l3, l4] (.null :: S) (H) Q) : W7 rm 12 [.val .null, l1, l2, l3, l4] (S) H Q := W.aload_n d7_12 rfl rfl h
theorem d7_13 : decode prog_40_method_13_code 13 = .ok (.getfield 15, 3) := by decide +kernel
theorem s7_13 {rm : Room} {S : List Value} {H : AHeap} {Q : Option Value → AHeap → Prop} {l0 l1 l2 l3 l4 : Slot} {i : Nat} {f0 f1 f2 f3 f4 f5 f6 f7 f8 : Value} (hH : H[i]? = some (.inl (0, [f0, f1, f2, f3, f4, f5, f6, f7, f8]))) (h : W7 rm 16 [l0, l1, l2, l3, l4] (f5 :: S) (H) Q) : W7 rm 13 [l0, l1, l2, l3, l4] (.ref i :: S) H Q := W.getF (c := 0) (j := 5) d7_13 (host := "") (Or.inl (List.mem_of_getElem? (i := 26) rfl)) (Or.inl rfl) rfl rfl hH rfl h
theorem d7_16 : decode prog_40_method_13_code 16 = .ok (.iload_n 1, 1) := by decide +kernel
theorem s7_16 {rm : Room} {S : List Value} {H : AHeap} {Q : Option Value → AHeap → Prop} {l0 l2 l3 l4 : Slot} {x : Int32} (h : W7 rm 17 [l0, .val (.int x), l2, l3, l4] (.int x :: S) (H) Q) : W7 rm 16 [l0, .val (.int x), l2, l3, l4] (S) H Q := W.iload_n d7_16 rfl h
theorem d7_17 : decode prog_40_method_13_code 17 = .ok (.iaload, 1) := by decide +kernel
theorem s7_17 {rm : Room} {S : List Value} {H : AHeap} {Q : Option Value → AHeap → Prop} {l0 l1 l2 l3 l4 : Slot} {i : Nat} {j : Int32} {vs : List Value} {v : Value} (N : Nat) (hH : H[i]? = some (.inr (.int, vs))) (hj : ix j N) (hv : vs[N]? = some v) (h : W7 rm 18 [l0, l1, l2, l3, l4] (v :: S) (H) Q) : W7 rm 17 [l0, l1, l2, l3, l4] (.int j :: .ref i :: S) H Q := W.xaload (Or.inl ⟨rfl, rfl⟩) d7_17 hH hj hv h
theorem d7_18 : decode prog_40_method_13_code 18 = .ok (.aload_n 0, 1) := by decide +kernel
theorem s7_18 {rm : Room} {S : List Value} {H : AHeap} {Q : Option Value → AHeap → Prop} {l1 l2 l3 l4 : Slot} {i : Nat} (h : W7 rm 19 [.val (.ref i), l1, l2, l3, l4] (.ref i :: S) (H) Q) : W7 rm 18 [.val (.ref i), l1, l2, l3, l4] (S) H Q := W.aload_n d7_18 rfl rfl h
theorem s7_18n {rm : Room} {S : List Value} {H : AHeap} {Q : Option Value → AHeap → Prop} {l1 l2 l3 l4 : Slot}  (h : W7 rm 19 [.val .null, l1, l2, l3, l4] (.null :: S) (H) Q) : W7 rm 18 [.val .null, l1, l2, l3, l4] (S) H Q := W.aload_n d7_18 rfl rfl h
theorem d7_19 : decode prog_40_method_13_code 19 = .ok (.getfield 19, 3) := by decide +kernel
theorem s7_19 {rm : Room} {S : List Value} {H : AHeap} {Q : Option Value → AHeap → Prop} {l0 l1 l2 l3 l4 : Slot} {i : Nat} {f0 f1 f2 f3 f4 f5 f6 f7 f8 : Value} (hH : H[i]? = some (.inl (0, [f0, f1, f2, f3, f4, f5, f6, f7, f8]))) (h : W7 rm 22 [l0, l1, l2, l3, l4] (f3 :: S) (H) Q) : W7 rm 19 [l0, l1, l2, l3, l4] (.ref i :: S) H Q := W.getF (c := 0) (j := 3) d7_19 (host := "") (Or.inl (List.mem_of_getElem? (i := 28) rfl)) (Or.inr (List.mem_of_getElem? (i := 29) rfl)) rfl rfl hH rfl h
theorem d7_22 : decode prog_40_method_13_code 22 = .ok (.iload_n 1, 1) := by decide +kernel
theorem s7_22 {rm : Room} {S : List Value} {H : AHeap} {Q : Option Value → AHeap → Prop} {l0 l2 l3 l4 : Slot} {x : Int32} (h : W7 rm 23 [l0, .val (.int x), l2, l3, l4] (.int x :: S) (H) Q) : W7 rm 22 [l0, .val (.int x), l2, l3, l4] (S) H Q := W.iload_n d7_22 rfl h
theorem d7_23 : decode prog_40_method_13_code 23 = .ok (.iaload, 1) := by decide +kernel
theorem s7_23 {rm : Room} {S : List Value} {H : AHeap} {Q : Option Value → AHeap → Prop} {l0 l1 l2 l3 l4 : Slot} {i : Nat} {j : Int32} {vs : List Value} {v : Value} (N : Nat) (hH : H[i]? = some (.inr (.int, vs))) (hj : ix j N) (hv : vs[N]? = some v) (h : W7 rm 24 [l0, l1, l2, l3, l4] (v :: S) (H) Q) : W7 rm 23 [l0, l1, l2, l3, l4] (.int j :: .ref i :: S) H Q := W.xaload (Or.inl ⟨rfl, rfl⟩) d7_23 hH hj hv h
theorem d7_24 : decode prog_40_method_13_code 24 = .ok (.iadd, 1) := by decide +kernel
theorem s7_24 {rm : Room} {S : List Value} {H : AHeap} {Q : Option Value → AHeap → Prop} {l0 l1 l2 l3 l4 : Slot} {x y : Int32} (h : W7 rm 25 [l0, l1, l2, l3, l4] (.int (x + y) :: S) (H) Q) : W7 rm 24 [l0, l1, l2, l3, l4] (.int y :: .int x :: S) H Q := W.iadd d7_24 h
theorem d7_25 : decode prog_40_method_13_code 25 = .ok (.if_icmp .ge 73, 3) := by decide +kernel
theorem s7_25 {rm : Room} {S : List Value} {H : AHeap} {Q : Option Value → AHeap → Prop} {l0 l1 l2 l3 l4 : Slot} {x y : Int32} (h1 : ¬ x < y → W7 rm 98 [l0, l1, l2, l3, l4] S H Q) (h2 : x < y → W7 rm 28 [l0, l1, l2, l3, l4] S H Q) : W7 rm 25 [l0, l1, l2, l3, l4] (.int y :: .int x :: S) H Q := W.icmp d7_25 (by decide) (by decide) h1 h2
theorem d7_28 : decode prog_40_method_13_code 28 = .ok (.aload_n 0, 1) := by decide +kernel
theorem s7_28 {rm : Room} {S : List Value} {H : AHeap} {Q : Option Value → AHeap → Prop} {l1 l2 l3 l4 : Slot} {i : Nat} (h : W7 rm 29 [.val (.ref i), l1, l2, l3, l4] (.ref i :: S) (H) Q) : W7 rm 28 [.val (.ref i), l1, l2, l3, l4] (S) H Q := W.aload_n d7_28 rfl rfl h
theorem s7_28n {rm : Room} {S : List Value} {H : AHeap} {Q : Option Value → AHeap → Prop} {l1 l2 l3 l4 : Slot}  (h : W7 rm 29 [.val .null, l1, l2, l3, l4] (.null :: S) (H) Q) : W7 rm 28 [.val .null, l1, l2, l3, l4] (S) H Q := W.aload_n d7_28 rfl rfl h
theorem d7_29 : decode prog_40_method_13_code 29 = .ok (.getfield 22, 3) := by decide +kernel
theorem s7_29 {rm : Room} {S : List Value} {H : AHeap} {Q : Option Value → AHeap → Prop} {l0 l1 l2 l3 l4 : Slot} {i : Nat} {f0 f1 f2 f3 f4 f5 f6 f7 f8 : Value} (hH : H[i]? = some (.inl (0, [f0, f1, f2, f3, f4, f5, f6, f7, f8]))) (h : W7 rm 32 [l0, l1, l2, l3, l4] (f6 :: S) (H) Q) : W7 rm 29 [l0, l1, l2, l3, l4] (.ref i :: S) H Q := W.getF (c := 0) (j := 6) d7_29 (host := "") (Or.inl (List.mem_of_getElem? (i := 30) rfl)) (Or.inl rfl) rfl rfl hH rfl h
theorem d7_32 : decode prog_40_method_13_code 32 = .ok (.iload 4, 2) := by decide +kernel
theorem s7_32 {rm : Room} {S : List Value} {H : AHeap} {Q : Option Value → AHeap → Prop} {l0 l1 l2 l3 : Slot} {x : Int32} (h : W7 rm 34 [l0, l1, l2, l3, .val (.int x)] (.int x :: S) (H) Q) : W7 rm 32 [l0, l1, l2, l3, .val (.int x)] (S) H Q := W.iload d7_32 rfl h
theorem d7_34 : decode prog_40_method_13_code 34 = .ok (.laload, 1) := by decide +kernel
theorem s7_34 {rm : Room} {S : List Value} {H : AHeap} {Q : Option Value → AHeap → Prop} {l0 l1 l2 l3 l4 : Slot} {i : Nat} {j : Int32} {vs : List Value} {v : Value} (N : Nat) (hH : H[i]? = some (.inr (.long, vs))) (hj : ix j N) (hv : vs[N]? = some v) (h : W7 rm 35 [l0, l1, l2, l3, l4] (v :: S) (H) Q) : W7 rm 34 [l0, l1, l2, l3, l4] (.int j :: .ref i :: S) H Q := W.xaload (Or.inr (Or.inl ⟨rfl, rfl⟩)) d7_34 hH hj hv h
theorem d7_35 : decode prog_40_method_13_code 35 = .ok (.ldc2_w 26, 3) := by decide +kernel
theorem s7_35 {rm : Room} {S : List Value} {H : AHeap} {Q : Option Value → AHeap → Prop} {l0 l1 l2 l3 l4 : Slot}  (h : W7 rm 38 [l0, l1, l2, l3, l4] (.long 9223372036854775807 :: S) (H) Q) : W7 rm 35 [l0, l1, l2, l3, l4] (S) H Q := W.ldcLong d7_35 (List.mem_of_getElem? (i := 32) rfl) h
theorem d7_38 : decode prog_40_method_13_code 38 = .ok (.lcmp, 1) := by decide +kernel
theorem d7_39 : decode prog_40_method_13_code 39 = .ok (.ifCond .eq 31, 3) := by decide +kernel
theorem s7_39 {rm : Room} {S : List Value} {H : AHeap} {Q : Option Value → AHeap → Prop} {l0 l1 l2 l3 l4 : Slot} {x : Int32} (h1 : x = 0 → W7 rm 70 [l0, l1, l2, l3, l4] S H Q) (h2 : ¬ x = 0 → W7 rm 42 [l0, l1, l2, l3, l4] S H Q) : W7 rm 39 [l0, l1, l2, l3, l4] (.int x :: S) H Q := W.ifc d7_39 (by decide) (by decide) h1 h2
theorem s7_38c {rm : Room} {S : List Value} {H : AHeap} {Q : Option Value → AHeap → Prop} {l0 l1 l2 l3 l4 : Slot} {x y : Int64} (h1 : x = y → W7 rm 70 [l0, l1, l2, l3, l4] S H Q) (h2 : ¬ x = y → W7 rm 42 [l0, l1, l2, l3, l4] S H Q) : W7 rm 38 [l0, l1, l2, l3, l4] (.long y :: .long x :: S) H Q := W.lcif d7_38 rfl d7_39 (by decide) (by decide) h1 h2
theorem d7_42 : decode prog_40_method_13_code 42 = .ok (.aload_n 0, 1) := by decide +kernel
theorem s7_42 {rm : Room} {S : List Value} {H : AHeap} {Q : Option Value → AHeap → Prop} {l1 l2 l3 l4 : Slot} {i : Nat} (h : W7 rm 43 [.val (.ref i), l1, l2, l3, l4] (.ref i :: S) (H) Q) : W7 rm 42 [.val (.ref i), l1, l2, l3, l4] (S) H Q := W.aload_n d7_42 rfl rfl h
theorem s7_42n {rm : Room} {S : List Value} {H : AHeap} {Q : Option Value → AHeap → Prop} {l1 l2 l3 l4 : Slot}  (h : W7 rm 43 [.val .null, l1, l2, l3, l4] (.null :: S) (H) Q) : W7 rm 42 [.val .null, l1, l2, l3, l4] (S) H Q := W.aload_n d7_42 rfl rfl h
theorem d7_43 : decode prog_40_method_13_code 43 = .ok (.getfield 22, 3) := by decide +kernel
theorem s7_43 {rm : Room} {S : List Value} {H : AHeap} {Q : Option Value → AHeap → Prop} {l0 l1 l2 l3 l4 : Slot} {i : Nat} {f0 f1 f2 f3 f4 f5 f6 f7 f8 : Value} (hH : H[i]? = some (.inl (0, [f0, f1, f2, f3, f4, f5, f6, f7, f8]))) (h : W7 rm 46 [l0, l1, l2, l3, l4] (f6 :: S) (H) Q) : W7 rm 43 [l0, l1, l2, l3, l4] (.ref i :: S) H Q := W.getF (c := 0) (j := 6) d7_43 (host := "") (Or.inl (List.mem_of_getElem? (i := 30) rfl)) (Or.inl rfl) rfl rfl hH rfl h
theorem d7_46 : decode prog_40_method_13_code 46 = .ok (.iload 4, 2) := by decide +kernel
theorem s7_46 {rm : Room} {S : List Value} {H : AHeap} {Q : Option Value → AHeap → Prop} {l0 l1 l2 l3 : Slot} {x : Int32} (h : W7 rm 48 [l0, l1, l2, l3, .val (.int x)] (.int x :: S) (H) Q) : W7 rm 46 [l0, l1, l2, l3, .val (.int x)] (S) H Q := W.iload d7_46 rfl h
theorem d7_48 : decode prog_40_method_13_code 48 = .ok (.laload, 1) := by decide +kernel
theorem s7_48 {rm : Room} {S : List Value} {H : AHeap} {Q : Option Value → AHeap → Prop} {l0 l1 l2 l3 l4 : Slot} {i : Nat} {j : Int32} {vs : List Value} {v : Value} (N : Nat) (hH : H[i]? = some (.inr (.long, vs))) (hj : ix j N) (hv : vs[N]? = some v) (h : W7 rm 49 [l0, l1, l2, l3, l4] (v :: S) (H) Q) : W7 rm 48 [l0, l1, l2, l3, l4] (.int j :: .ref i :: S) H Q := W.xaload (Or.inr (Or.inl ⟨rfl, rfl⟩)) d7_48 hH hj hv h
theorem d7_49 : decode prog_40_method_13_code 49 = .ok (.iload_n 2, 1) := by decide +kernel
theorem s7_49 {rm : Room} {S : List Value} {H : AHeap} {Q : Option Value → AHeap → Prop} {l0 l1 l3 l4 : Slot} {x : Int32} (h : W7 rm 50 [l0, l1, .val (.int x), l3, l4] (.int x :: S) (H) Q) : W7 rm 49 [l0, l1, .val (.int x), l3, l4] (S) H Q := W.iload_n d7_49 rfl h
theorem d7_50 : decode prog_40_method_13_code 50 = .ok (.i2l, 1) := by decide +kernel
theorem s7_50 {rm : Room} {S : List Value} {H : AHeap} {Q : Option Value → AHeap → Prop} {l0 l1 l2 l3 l4 : Slot} {x : Int32} (h : W7 rm 51 [l0, l1, l2, l3, l4] (.long x.toInt64 :: S) (H) Q) : W7 rm 50 [l0, l1, l2, l3, l4] (.int x :: S) H Q := W.i2l d7_50 h
theorem d7_51 : decode prog_40_method_13_code 51 = .ok (.lsub, 1) := by decide +kernel
theorem s7_51 {rm : Room} {S : List Value} {H : AHeap} {Q : Option Value → AHeap → Prop} {l0 l1 l2 l3 l4 : Slot} {x y : Int64} (h : W7 rm 52 [l0, l1, l2, l3, l4] (.long (x - y) :: S) (H) Q) : W7 rm 51 [l0, l1, l2, l3, l4] (.long y :: .long x :: S) H Q := W.lsub d7_51 h
theorem d7_52 : decode prog_40_method_13_code 52 = .ok (.aload_n 0, 1) := by decide +kernel
theorem s7_52 {rm : Room} {S : List Value} {H : AHeap} {Q : Option Value → AHeap → Prop} {l1 l2 l3 l4 : Slot} {i : Nat} (h : W7 rm 53 [.val (.ref i), l1, l2, l3, l4] (.ref i :: S) (H) Q) : W7 rm 52 [.val (.ref i), l1, l2, l3, l4] (S) H Q := W.aload_n d7_52 rfl rfl h
theorem s7_52n {rm : Room} {S : List Value} {H : AHeap} {Q : Option Value → AHeap → Prop} {l1 l2 l3 l4 : Slot}  (h : W7 rm 53 [.val .null, l1, l2, l3, l4] (.null :: S) (H) Q) : W7 rm 52 [.val .null, l1, l2, l3, l4] (S) H Q := W.aload_n d7_52 rfl rfl h
theorem d7_53 : decode prog_40_method_13_code 53 = .ok (.getfield 9, 3) := by decide +kernel
theorem s7_53 {rm : Room} {S : List Value} {H : AHeap} {Q : Option Value → AHeap → Prop} {l0 l1 l2 l3 l4 : Slot} {i : Nat} {f0 f1 f2 f3 f4 f5 f6 f7 f8 : Value} (hH : H[i]? = some (.inl (0, [f0, f1, f2, f3, f4, f5, f6, f7, f8]))) (h : W7 rm 56 [l0, l1, l2, l3, l4] (f4 :: S) (H) Q) : W7 rm 53 [l0, l1, l2, l3, l4] (.ref i :: S) H Q := W.getF (c := 0) (j := 4) d7_53 (host := "") (Or.inl (List.mem_of_getElem? (i := 24) rfl)) (Or.inl rfl) rfl rfl hH rfl h
theorem d7_56 : decode prog_40_method_13_code 56 = .ok (.lcmp, 1) := by decide +kernel
theorem d7_57 : decode prog_40_method_13_code 57 = .ok (.ifCond .le 13, 3) := by decide +kernel
theorem s7_57 {rm : Room} {S : List Value} {H : AHeap} {Q : Option Value → AHeap → Prop} {l0 l1 l2 l3 l4 : Slot} {x : Int32} (h1 : ¬ 0 < x → W7 rm 70 [l0, l1, l2, l3, l4] S H Q) (h2 : 0 < x → W7 rm 60 [l0, l1, l2, l3, l4] S H Q) : W7 rm 57 [l0, l1, l2, l3, l4] (.int x :: S) H Q := W.ifc d7_57 (by decide) (by decide) h1 h2
theorem s7_56c {rm : Room} {S : List Value} {H : AHeap} {Q : Option Value → AHeap → Prop} {l0 l1 l2 l3 l4 : Slot} {x y : Int64} (h1 : ¬ y < x → W7 rm 70 [l0, l1, l2, l3, l4] S H Q) (h2 : y < x → W7 rm 60 [l0, l1, l2, l3, l4] S H Q) : W7 rm 56 [l0, l1, l2, l3, l4] (.long y :: .long x :: S) H Q := W.lcif d7_56 rfl d7_57 (by decide) (by decide) h1 h2
theorem d7_60 : decode prog_40_method_13_code 60 = .ok (.aload_n 0, 1) := by decide +kernel
theorem s7_60 {rm : Room} {S : List Value} {H : AHeap} {Q : Option Value → AHeap → Prop} {l1 l2 l3 l4 : Slot} {i : Nat} (h : W7 rm 61 [.val (.ref i), l1, l2, l3, l4] (.ref i :: S) (H) Q) : W7 rm 60 [.val (.ref i), l1, l2, l3, l4] (S) H Q := W.aload_n d7_60 rfl rfl h
theorem s7_60n {rm : Room} {S : List Value} {H : AHeap} {Q : Option Value → AHeap → Prop} {l1 l2 l3 l4 : Slot}  (h : W7 rm 61 [.val .null, l1, l2, l3, l4] (.null :: S) (H) Q) : W7 rm 60 [.val .null, l1, l2, l3, l4] (S) H Q := W.aload_n d7_60 rfl rfl h
theorem d7_61 : decode prog_40_method_13_code 61 = .ok (.getfield 22, 3) := by decide +kernel
theorem s7_61 {rm : Room} {S : List Value} {H : AHeap} {Q : Option Value → AHeap → Prop} {l0 l1 l2 l3 l4 : Slot} {i : Nat} {f0 f1 f2 f3 f4 f5 f6 f7 f8 : Value} (hH : H[i]? = some (.inl (0, [f0, f1, f2, f3, f4, f5, f6, f7, f8]))) (h : W7 rm 64 [l0, l1, l2, l3, l4] (f6 :: S) (H) Q) : W7 rm 61 [l0, l1, l2, l3, l4] (.ref i :: S) H Q := W.getF (c := 0) (j := 6) d7_61 (host := "") (Or.inl (List.mem_of_getElem? (i := 30) rfl)) (Or.inl rfl) rfl rfl hH rfl h
theorem d7_64 : decode prog_40_method_13_code 64 = .ok (.iload 4, 2) := by decide +kernel
theorem s7_64 {rm : Room} {S : List Value} {H : AHeap} {Q : Option Value → AHeap → Prop} {l0 l1 l2 l3 : Slot} {x : Int32} (h : W7 rm 66 [l0, l1, l2, l3, .val (.int x)] (.int x :: S) (H) Q) : W7 rm 64 [l0, l1, l2, l3, .val (.int x)] (S) H Q := W.iload d7_64 rfl h
theorem d7_66 : decode prog_40_method_13_code 66 = .ok (.ldc2_w 26, 3) := by decide +kernel
theorem s7_66 {rm : Room} {S : List Value} {H : AHeap} {Q : Option Value → AHeap → Prop} {l0 l1 l2 l3 l4 : Slot}  (h : W7 rm 69 [l0, l1, l2, l3, l4] (.long 9223372036854775807 :: S) (H) Q) : W7 rm 66 [l0, l1, l2, l3, l4] (S) H Q := W.ldcLong d7_66 (List.mem_of_getElem? (i := 32) rfl) h
theorem d7_69 : decode prog_40_method_13_code 69 = .ok (.lastore, 1) := by decide +kernel
theorem s7_69 {rm : Room} {S : List Value} {H : AHeap} {Q : Option Value → AHeap → Prop} {l0 l1 l2 l3 l4 : Slot} {i : Nat} {j : Int32} {x : Int64} {vs : List Value} (N : Nat) (hH : H[i]? = some (.inr (.long, vs))) (hj : ix j N) (hl : Nat.blt N vs.length = true) (h : W7 rm 70 [l0, l1, l2, l3, l4] (S) (H.set i (.inr (.long, vs.set N (.long x)))) Q) : W7 rm 69 [l0, l1, l2, l3, l4] (.long x :: .int j :: .ref i :: S) H Q := W.lastore d7_69 hH hj hl h
theorem d7_70 : decode prog_40_method_13_code 70 = .ok (.iload_n 3, 1) := by decide +kernel
theorem s7_70 {rm : Room} {S : List Value} {H : AHeap} {Q : Option Value → AHeap → Prop} {l0 l1 l2 l4 : Slot} {x : Int32} (h : W7 rm 71 [l0, l1, l2, .val (.int x), l4] (.int x :: S) (H) Q) : W7 rm 70 [l0, l1, l2, .val (.int x), l4] (S) H Q := W.iload_n d7_70 rfl h
theorem d7_71 : decode prog_40_method_13_code 71 = .ok (.aload_n 0, 1) := by decide +kernel
theorem s7_71 {rm : Room} {S : List Value} {H : AHeap} {Q : Option Value → AHeap → Prop} {l1 l2 l3 l4 : Slot} {i : Nat} (h : W7 rm 72 [.val (.ref i), l1, l2, l3, l4] (.ref i :: S) (H) Q) : W7 rm 71 [.val (.ref i), l1, l2, l3, l4] (S) H Q := W.aload_n d7_71 rfl rfl h
theorem s7_71n {rm : Room} {S : List Value} {H : AHeap} {Q : Option Value → AHeap → Prop} {l1 l2 l3 l4 : Slot}  (h : W7 rm 72 [.val .null, l1, l2, l3, l4] (.null :: S) (H) Q) : W7 rm 71 [.val .null, l1, l2, l3, l4] (S) H Q := W.aload_n d7_71 rfl rfl h
theorem d7_72 : decode prog_40_method_13_code 72 = .ok (.getfield 22, 3) := by decide +kernel
theorem s7_72 {rm : Room} {S : List Value} {H : AHeap} {Q : Option Value → AHeap → Prop} {l0 l1 l2 l3 l4 : Slot} {i : Nat} {f0 f1 f2 f3 f4 f5 f6 f7 f8 : Value} (hH : H[i]? = some (.inl (0, [f0, f1, f2, f3, f4, f5, f6, f7, f8]))) (h : W7 rm 75 [l0, l1, l2, l3, l4] (f6 :: S) (H) Q) : W7 rm 72 [l0, l1, l2, l3, l4] (.ref i :: S) H Q := W.getF (c := 0) (j := 6) d7_72 (host := "") (Or.inl (List.mem_of_getElem? (i := 30) rfl)) (Or.inl rfl) rfl rfl hH rfl h
theorem d7_75 : decode prog_40_method_13_code 75 = .ok (.iload 4, 2) := by decide +kernel
theorem s7_75 {rm : Room} {S : List Value} {H : AHeap} {Q : Option Value → AHeap → Prop} {l0 l1 l2 l3 : Slot} {x : Int32} (h : W7 rm 77 [l0, l1, l2, l3, .val (.int x)] (.int x :: S) (H) Q) : W7 rm 75 [l0, l1, l2, l3, .val (.int x)] (S) H Q := W.iload d7_75 rfl h
theorem d7_77 : decode prog_40_method_13_code 77 = .ok (.laload, 1) := by decide +kernel
theorem s7_77 {rm : Room} {S : List Value} {H : AHeap} {Q : Option Value → AHeap → Prop} {l0 l1 l2 l3 l4 : Slot} {i : Nat} {j : Int32} {vs : List Value} {v : Value} (N : Nat) (hH : H[i]? = some (.inr (.long, vs))) (hj : ix j N) (hv : vs[N]? = some v) (h : W7 rm 78 [l0, l1, l2, l3, l4] (v :: S) (H) Q) : W7 rm 77 [l0, l1, l2, l3, l4] (.int j :: .ref i :: S) H Q := W.xaload (Or.inr (Or.inl ⟨rfl, rfl⟩)) d7_77 hH hj hv h
theorem d7_78 : decode prog_40_method_13_code 78 = .ok (.ldc2_w 26, 3) := by decide +kernel
theorem s7_78 {rm : Room} {S : List Value} {H : AHeap} {Q : Option Value → AHeap → Prop} {l0 l1 l2 l3 l4 : Slot}  (h : W7 rm 81 [l0, l1, l2, l3, l4] (.long 9223372036854775807 :: S) (H) Q) : W7 rm 78 [l0, l1, l2, l3, l4] (S) H Q := W.ldcLong d7_78 (List.mem_of_getElem? (i := 32) rfl) h
theorem d7_81 : decode prog_40_method_13_code 81 = .ok (.lcmp, 1) := by decide +kernel
theorem d7_82 : decode prog_40_method_13_code 82 = .ok (.ifCond .eq 7, 3) := by decide +kernel
theorem s7_82 {rm : Room} {S : List Value} {H : AHeap} {Q : Option Value → AHeap → Prop} {l0 l1 l2 l3 l4 : Slot} {x : Int32} (h1 : x = 0 → W7 rm 89 [l0, l1, l2, l3, l4] S H Q) (h2 : ¬ x = 0 → W7 rm 85 [l0, l1, l2, l3, l4] S H Q) : W7 rm 82 [l0, l1, l2, l3, l4] (.int x :: S) H Q := W.ifc d7_82 (by decide) (by decide) h1 h2
theorem s7_81c {rm : Room} {S : List Value} {H : AHeap} {Q : Option Value → AHeap → Prop} {l0 l1 l2 l3 l4 : Slot} {x y : Int64} (h1 : x = y → W7 rm 89 [l0, l1, l2, l3, l4] S H Q) (h2 : ¬ x = y → W7 rm 85 [l0, l1, l2, l3, l4] S H Q) : W7 rm 81 [l0, l1, l2, l3, l4] (.long y :: .long x :: S) H Q := W.lcif d7_81 rfl d7_82 (by decide) (by decide) h1 h2
theorem d7_85 : decode prog_40_method_13_code 85 = .ok (.iconst 1, 1) := by decide +kernel
theorem s7_85 {rm : Room} {S : List Value} {H : AHeap} {Q : Option Value → AHeap → Prop} {l0 l1 l2 l3 l4 : Slot}  (h : W7 rm 86 [l0, l1, l2, l3, l4] (.int 1 :: S) (H) Q) : W7 rm 85 [l0, l1, l2, l3, l4] (S) H Q := W.iconst' d7_85 (by decide) h
theorem d7_86 : decode prog_40_method_13_code 86 = .ok (.goto 4, 3) := by decide +kernel
theorem s7_86 {rm : Room} {S : List Value} {H : AHeap} {Q : Option Value → AHeap → Prop} {l0 l1 l2 l3 l4 : Slot}  (h : W7 rm 90 [l0, l1, l2, l3, l4] (S) (H) Q) : W7 rm 86 [l0, l1, l2, l3, l4] (S) H Q := W.goto d7_86 (by decide) (by decide) h
theorem d7_89 : decode prog_40_method_13_code 89 = .ok (.iconst 0, 1) := by decide +kernel
theorem s7_89 {rm : Room} {S : List Value} {H : AHeap} {Q : Option Value → AHeap → Prop} {l0 l1 l2 l3 l4 : Slot}  (h : W7 rm 90 [l0, l1, l2, l3, l4] (.int 0 :: S) (H) Q) : W7 rm 89 [l0, l1, l2, l3, l4] (S) H Q := W.iconst' d7_89 (by decide) h
theorem d7_90 : decode prog_40_method_13_code 90 = .ok (.ior, 1) := by decide +kernel
theorem s7_90 {rm : Room} {S : List Value} {H : AHeap} {Q : Option Value → AHeap → Prop} {l0 l1 l2 l3 l4 : Slot} {x y : Int32} (h : W7 rm 91 [l0, l1, l2, l3, l4] (.int (x ||| y) :: S) (H) Q) : W7 rm 90 [l0, l1, l2, l3, l4] (.int y :: .int x :: S) H Q := W.ior d7_90 h
theorem d7_91 : decode prog_40_method_13_code 91 = .ok (.istore_n 3, 1) := by decide +kernel
theorem s7_91 {rm : Room} {S : List Value} {H : AHeap} {Q : Option Value → AHeap → Prop} {l0 l1 l2 l3 l4 : Slot} {x : Int32} (ho : one l3 = true) (h : W7 rm 92 [l0, l1, l2, .val (.int x), l4] (S) (H) Q) : W7 rm 91 [l0, l1, l2, l3, l4] (.int x :: S) H Q := W.istore_n d7_91 rfl ho h
theorem s7_91w {rm : Room} {S : List Value} {H : AHeap} {Q : Option Value → AHeap → Prop} {l0 l1 l2 l4 : Slot} {w : Value} {x : Int32} (ho : w.category = 2) (h : W7 rm 92 [l0, l1, l2, .val (.int x), .unset] (S) (H) Q) : W7 rm 91 [l0, l1, l2, .val w, l4] (.int x :: S) H Q := W.istore_nW d7_91 rfl ho (Nat.le_of_ble_eq_true rfl) h
theorem s7_91s {rm : Room} {S : List Value} {H : AHeap} {Q : Option Value → AHeap → Prop} {l0 l1 l2 l4 : Slot} {x : Int32} (h : W7 rm 92 [l0, l1, .unset, .val (.int x), l4] (S) (H) Q) : W7 rm 91 [l0, l1, l2, .second, l4] (.int x :: S) H Q := W.istore_nS d7_91 rfl (by decide) h
theorem d7_92 : decode prog_40_method_13_code 92 = .ok (.iinc 4 1, 3) := by decide +kernel
theorem s7_92 {rm : Room} {S : List Value} {H : AHeap} {Q : Option Value → AHeap → Prop} {l0 l1 l2 l3 : Slot} {x : Int32} (h : W7 rm 95 [l0, l1, l2, l3, .val (.int (x + 1))] (S) (H) Q) : W7 rm 92 [l0, l1, l2, l3, .val (.int x)] (S) H Q := W.iinc d7_92 (by decide) rfl h
theorem d7_95 : decode prog_40_method_13_code 95 = .ok (.goto (-85), 3) := by decide +kernel
theorem s7_95 {rm : Room} {S : List Value} {H : AHeap} {Q : Option Value → AHeap → Prop} {l0 l1 l2 l3 l4 : Slot}  (h : W7 rm 10 [l0, l1, l2, l3, l4] (S) (H) Q) : W7 rm 95 [l0, l1, l2, l3, l4] (S) H Q := W.goto d7_95 (by decide) (by decide) h
theorem d7_98 : decode prog_40_method_13_code 98 = .ok (.iload_n 3, 1) := by decide +kernel
theorem s7_98 {rm : Room} {S : List Value} {H : AHeap} {Q : Option Value → AHeap → Prop} {l0 l1 l2 l4 : Slot} {x : Int32} (h : W7 rm 99 [l0, l1, l2, .val (.int x), l4] (.int x :: S) (H) Q) : W7 rm 98 [l0, l1, l2, .val (.int x), l4] (S) H Q := W.iload_n d7_98 rfl h
theorem d7_99 : decode prog_40_method_13_code 99 = .ok (.ireturn, 1) := by decide +kernel
theorem s7_99 {rm : Room} {S : List Value} {H : AHeap} {Q : Option Value → AHeap → Prop} {l0 l1 l2 l3 l4 : Slot} {x : Int32} (hQ : Q (some (.int (x &&& 1))) H) : W7 rm 99 [l0, l1, l2, l3, l4] (.int x :: S) H Q := W.ireturnZ d7_99 rfl hQ
theorem e8 {rm : Room} {H : AHeap} {Q : Option Value → AHeap → Prop} {a0 : Int32} {a1 : Int32} {a2 : Int64} (h : W8 rm 0 [.val (.int a0), .val (.int a1), .val (.long a2), .second] [] H Q) : M8 rm [.int a0, .int a1, .long a2] H Q := M.of pf8 rfl rfl h
theorem e8L {rm : Room} {H : AHeap} {Q : Option Value → AHeap → Prop} {L : List Slot} {as : List Value} (h : W8 rm 0 L [] H Q) (hl : ent as ++ List.replicate (4 - (ent as).length) .unset = L := by rfl) (hn : L.length = 4 := by rfl) : M8 rm as H Q := M.of pf8 hl hn h
theorem d8_0 : decode method_3_code 0 = .ok (.iload_n 0, 1) := by decide +kernel
theorem s8_0 {rm : Room} {S : List Value} {H : AHeap} {Q : Option Value → AHeap → Prop} {l1 l2 l3 : Slot} {x : Int32} (h : W8 rm 1 [.val (.int x), l1, l2, l3] (.int x :: S) (H) Q) : W8 rm 0 [.val (.int x), l1, l2, l3] (S) H Q := W.iload_n d8_0 rfl h
theorem d8_1 : decode method_3_code 1 = .ok (.i2l, 1) := by decide +kernel
theorem s8_1 {rm : Room} {S : List Value} {H : AHeap} {Q : Option Value → AHeap → Prop} {l0 l1 l2 l3 : Slot} {x : Int32} (h : W8 rm 2 [l0, l1, l2, l3] (.long x.toInt64 :: S) (H) Q) : W8 rm 1 [l0, l1, l2, l3] (.int x :: S) H Q := W.i2l d8_1 h
theorem d8_2 : decode method_3_code 2 = .ok (.iload_n 1, 1) := by decide +kernel
theorem s8_2 {rm : Room} {S : List Value} {H : AHeap} {Q : Option Value → AHeap → Prop} {l0 l2 l3 : Slot} {x : Int32} (h : W8 rm 3 [l0, .val (.int x), l2, l3] (.int x :: S) (H) Q) : W8 rm 2 [l0, .val (.int x), l2, l3] (S) H Q := W.iload_n d8_2 rfl h
theorem d8_3 : decode method_3_code 3 = .ok (.i2l, 1) := by decide +kernel
theorem s8_3 {rm : Room} {S : List Value} {H : AHeap} {Q : Option Value → AHeap → Prop} {l0 l1 l2 l3 : Slot} {x : Int32} (h : W8 rm 4 [l0, l1, l2, l3] (.long x.toInt64 :: S) (H) Q) : W8 rm 3 [l0, l1, l2, l3] (.int x :: S) H Q := W.i2l d8_3 h
theorem d8_4 : decode method_3_code 4 = .ok (.lsub, 1) := by decide +kernel
theorem s8_4 {rm : Room} {S : List Value} {H : AHeap} {Q : Option Value → AHeap → Prop} {l0 l1 l2 l3 : Slot} {x y : Int64} (h : W8 rm 5 [l0, l1, l2, l3] (.long (x - y) :: S) (H) Q) : W8 rm 4 [l0, l1, l2, l3] (.long y :: .long x :: S) H Q := W.lsub d8_4 h
theorem d8_5 : decode method_3_code 5 = .ok (.lload_n 2, 1) := by decide +kernel
theorem s8_5 {rm : Room} {S : List Value} {H : AHeap} {Q : Option Value → AHeap → Prop} {l0 l1 l3 : Slot} {x : Int64} (h : W8 rm 6 [l0, l1, .val (.long x), l3] (.long x :: S) (H) Q) : W8 rm 5 [l0, l1, .val (.long x), l3] (S) H Q := W.lload_n d8_5 rfl h
theorem d8_6 : decode method_3_code 6 = .ok (.lcmp, 1) := by decide +kernel
theorem d8_7 : decode method_3_code 7 = .ok (.ifCond .gt 7, 3) := by decide +kernel
theorem s8_7 {rm : Room} {S : List Value} {H : AHeap} {Q : Option Value → AHeap → Prop} {l0 l1 l2 l3 : Slot} {x : Int32} (h1 : 0 < x → W8 rm 14 [l0, l1, l2, l3] S H Q) (h2 : ¬ 0 < x → W8 rm 10 [l0, l1, l2, l3] S H Q) : W8 rm 7 [l0, l1, l2, l3] (.int x :: S) H Q := W.ifc d8_7 (by decide) (by decide) h1 h2
theorem s8_6c {rm : Room} {S : List Value} {H : AHeap} {Q : Option Value → AHeap → Prop} {l0 l1 l2 l3 : Slot} {x y : Int64} (h1 : y < x → W8 rm 14 [l0, l1, l2, l3] S H Q) (h2 : ¬ y < x → W8 rm 10 [l0, l1, l2, l3] S H Q) : W8 rm 6 [l0, l1, l2, l3] (.long y :: .long x :: S) H Q := W.lcif d8_6 rfl d8_7 (by decide) (by decide) h1 h2
theorem d8_10 : decode method_3_code 10 = .ok (.iconst 1, 1) := by decide +kernel
theorem s8_10 {rm : Room} {S : List Value} {H : AHeap} {Q : Option Value → AHeap → Prop} {l0 l1 l2 l3 : Slot}  (h : W8 rm 11 [l0, l1, l2, l3] (.int 1 :: S) (H) Q) : W8 rm 10 [l0, l1, l2, l3] (S) H Q := W.iconst' d8_10 (by decide) h
theorem d8_11 : decode method_3_code 11 = .ok (.goto 4, 3) := by decide +kernel
theorem s8_11 {rm : Room} {S : List Value} {H : AHeap} {Q : Option Value → AHeap → Prop} {l0 l1 l2 l3 : Slot}  (h : W8 rm 15 [l0, l1, l2, l3] (S) (H) Q) : W8 rm 11 [l0, l1, l2, l3] (S) H Q := W.goto d8_11 (by decide) (by decide) h
theorem d8_14 : decode method_3_code 14 = .ok (.iconst 0, 1) := by decide +kernel
theorem s8_14 {rm : Room} {S : List Value} {H : AHeap} {Q : Option Value → AHeap → Prop} {l0 l1 l2 l3 : Slot}  (h : W8 rm 15 [l0, l1, l2, l3] (.int 0 :: S) (H) Q) : W8 rm 14 [l0, l1, l2, l3] (S) H Q := W.iconst' d8_14 (by decide) h
theorem d8_15 : decode method_3_code 15 = .ok (.ireturn, 1) := by decide +kernel
theorem s8_15 {rm : Room} {S : List Value} {H : AHeap} {Q : Option Value → AHeap → Prop} {l0 l1 l2 l3 : Slot} {x : Int32} (hQ : Q (some (.int (x &&& 1))) H) : W8 rm 15 [l0, l1, l2, l3] (.int x :: S) H Q := W.ireturnZ d8_15 rfl hQ
theorem e9 {rm : Room} {H : AHeap} {Q : Option Value → AHeap → Prop} {a0 : Nat} {a1 : Int32} {a2 : Int32} (h : W9 rm 0 [.val (.ref a0), .val (.int a1), .val (.int a2)] [] H Q) : M9 rm [.ref a0, .int a1, .int a2] H Q := M.of pf9 rfl rfl h
theorem e9L {rm : Room} {H : AHeap} {Q : Option Value → AHeap → Prop} {L : List Slot} {as : List Value} (h : W9 rm 0 L [] H Q) (hl : ent as ++ List.replicate (3 - (ent as).length) .unset = L := by rfl) (hn : L.length = 3 := by rfl) : M9 rm as H Q := M.of pf9 hl hn h
theorem d9_0 : decode prog_40_method_2_code 0 = .ok (.aload_n 0, 1) := by decide +kernel
theorem s9_0 {rm : Room} {S : List Value} {H : AHeap} {Q : Option Value → AHeap → Prop} {l1 l2 : Slot} {i : Nat} (h : W9 rm 1 [.val (.ref i), l1, l2] (.ref i :: S) (H) Q) : W9 rm 0 [.val (.ref i), l1, l2] (S) H Q := W.aload_n d9_0 rfl rfl h
theorem s9_0n {rm : Room} {S : List Value} {H : AHeap} {Q : Option Value → AHeap → Prop} {l1 l2 : Slot}  (h : W9 rm 1 [.val .null, l1, l2] (.null :: S) (H) Q) : W9 rm 0 [.val .null, l1, l2] (S) H Q := W.aload_n d9_0 rfl rfl h
theorem d9_1 : decode prog_40_method_2_code 1 = .ok (.getfield 22, 3) := by decide +kernel
theorem s9_1 {rm : Room} {S : List Value} {H : AHeap} {Q : Option Value → AHeap → Prop} {l0 l1 l2 : Slot} {i : Nat} {f0 f1 f2 f3 f4 f5 f6 f7 f8 : Value} (hH : H[i]? = some (.inl (0, [f0, f1, f2, f3, f4, f5, f6, f7, f8]))) (h : W9 rm 4 [l0, l1, l2] (f6 :: S) (H) Q) : W9 rm 1 [l0, l1, l2] (.ref i :: S) H Q := W.getF (c := 0) (j := 6) d9_1 (host := "") (Or.inl (List.mem_of_getElem? (i := 30) rfl)) (Or.inl rfl) rfl rfl hH rfl h
theorem d9_4 : decode prog_40_method_2_code 4 = .ok (.aload_n 0, 1) := by decide +kernel
theorem s9_4 {rm : Room} {S : List Value} {H : AHeap} {Q : Option Value → AHeap → Prop} {l1 l2 : Slot} {i : Nat} (h : W9 rm 5 [.val (.ref i), l1, l2] (.ref i :: S) (H) Q) : W9 rm 4 [.val (.ref i), l1, l2] (S) H Q := W.aload_n d9_4 rfl rfl h
theorem s9_4n {rm : Room} {S : List Value} {H : AHeap} {Q : Option Value → AHeap → Prop} {l1 l2 : Slot}  (h : W9 rm 5 [.val .null, l1, l2] (.null :: S) (H) Q) : W9 rm 4 [.val .null, l1, l2] (S) H Q := W.aload_n d9_4 rfl rfl h
theorem d9_5 : decode prog_40_method_2_code 5 = .ok (.getfield 15, 3) := by decide +kernel
theorem s9_5 {rm : Room} {S : List Value} {H : AHeap} {Q : Option Value → AHeap → Prop} {l0 l1 l2 : Slot} {i : Nat} {f0 f1 f2 f3 f4 f5 f6 f7 f8 : Value} (hH : H[i]? = some (.inl (0, [f0, f1, f2, f3, f4, f5, f6, f7, f8]))) (h : W9 rm 8 [l0, l1, l2] (f5 :: S) (H) Q) : W9 rm 5 [l0, l1, l2] (.ref i :: S) H Q := W.getF (c := 0) (j := 5) d9_5 (host := "") (Or.inl (List.mem_of_getElem? (i := 26) rfl)) (Or.inl rfl) rfl rfl hH rfl h
theorem d9_8 : decode prog_40_method_2_code 8 = .ok (.iload_n 1, 1) := by decide +kernel
theorem s9_8 {rm : Room} {S : List Value} {H : AHeap} {Q : Option Value → AHeap → Prop} {l0 l2 : Slot} {x : Int32} (h : W9 rm 9 [l0, .val (.int x), l2] (.int x :: S) (H) Q) : W9 rm 8 [l0, .val (.int x), l2] (S) H Q := W.iload_n d9_8 rfl h
theorem d9_9 : decode prog_40_method_2_code 9 = .ok (.iaload, 1) := by decide +kernel
theorem s9_9 {rm : Room} {S : List Value} {H : AHeap} {Q : Option Value → AHeap → Prop} {l0 l1 l2 : Slot} {i : Nat} {j : Int32} {vs : List Value} {v : Value} (N : Nat) (hH : H[i]? = some (.inr (.int, vs))) (hj : ix j N) (hv : vs[N]? = some v) (h : W9 rm 10 [l0, l1, l2] (v :: S) (H) Q) : W9 rm 9 [l0, l1, l2] (.int j :: .ref i :: S) H Q := W.xaload (Or.inl ⟨rfl, rfl⟩) d9_9 hH hj hv h
theorem d9_10 : decode prog_40_method_2_code 10 = .ok (.iload_n 2, 1) := by decide +kernel
theorem s9_10 {rm : Room} {S : List Value} {H : AHeap} {Q : Option Value → AHeap → Prop} {l0 l1 : Slot} {x : Int32} (h : W9 rm 11 [l0, l1, .val (.int x)] (.int x :: S) (H) Q) : W9 rm 10 [l0, l1, .val (.int x)] (S) H Q := W.iload_n d9_10 rfl h
theorem d9_11 : decode prog_40_method_2_code 11 = .ok (.iadd, 1) := by decide +kernel
theorem s9_11 {rm : Room} {S : List Value} {H : AHeap} {Q : Option Value → AHeap → Prop} {l0 l1 l2 : Slot} {x y : Int32} (h : W9 rm 12 [l0, l1, l2] (.int (x + y) :: S) (H) Q) : W9 rm 11 [l0, l1, l2] (.int y :: .int x :: S) H Q := W.iadd d9_11 h
theorem d9_12 : decode prog_40_method_2_code 12 = .ok (.laload, 1) := by decide +kernel
theorem s9_12 {rm : Room} {S : List Value} {H : AHeap} {Q : Option Value → AHeap → Prop} {l0 l1 l2 : Slot} {i : Nat} {j : Int32} {vs : List Value} {v : Value} (N : Nat) (hH : H[i]? = some (.inr (.long, vs))) (hj : ix j N) (hv : vs[N]? = some v) (h : W9 rm 13 [l0, l1, l2] (v :: S) (H) Q) : W9 rm 12 [l0, l1, l2] (.int j :: .ref i :: S) H Q := W.xaload (Or.inr (Or.inl ⟨rfl, rfl⟩)) d9_12 hH hj hv h
theorem d9_13 : decode prog_40_method_2_code 13 = .ok (.lreturn, 1) := by decide +kernel
theorem s9_13 {rm : Room} {S : List Value} {H : AHeap} {Q : Option Value → AHeap → Prop} {l0 l1 l2 : Slot} {x : Int64} (hQ : Q (some (.long x)) H) : W9 rm 13 [l0, l1, l2] (.long x :: S) H Q := W.lreturn d9_13 rfl hQ
theorem b0_4 {rm : Room} {S : List Value} {H : AHeap} {Q : Option Value → AHeap → Prop} {l0 l1 l2 l3 l4 l5 l6 l7 l8 l9 l10 l11 l12 l13 l14 l15 l16 l17 l18 l19 l20 l21 l22 l23 l24 l25 : Slot} {x : Int32} (h : ∀ t : Int32, ((¬ x = 0) ∧ t = 1) ∨ ((x = 0) ∧ t = 0) → W0 rm 12 [l0, l1, l2, l3, l4, l5, l6, l7, l8, l9, l10, l11, l12, l13, l14, l15, l16, l17, l18, l19, l20, l21, l22, l23, l24, l25] (.int t :: S) H Q) : W0 rm 4 [l0, l1, l2, l3, l4, l5, l6, l7, l8, l9, l10, l11, l12, l13, l14, l15, l16, l17, l18, l19, l20, l21, l22, l23, l24, l25] (.int x :: S) H Q := s0_4 (fun q => s0_11 (h 0 (Or.inr ⟨q, rfl⟩))) (fun q => s0_7 (s0_8 (h 1 (Or.inl ⟨q, rfl⟩))))
theorem b0_18 {rm : Room} {S : List Value} {H : AHeap} {Q : Option Value → AHeap → Prop} {l0 l1 l2 l3 l4 l5 l6 l7 l8 l9 l10 l11 l12 l13 l14 l15 l16 l17 l18 l19 l20 l21 l22 l23 l24 l25 : Slot} {x : Int32} (h : ∀ t : Int32, ((¬ x = 0) ∧ t = 1) ∨ ((x = 0) ∧ t = 0) → W0 rm 26 [l0, l1, l2, l3, l4, l5, l6, l7, l8, l9, l10, l11, l12, l13, l14, l15, l16, l17, l18, l19, l20, l21, l22, l23, l24, l25] (.int t :: S) H Q) : W0 rm 18 [l0, l1, l2, l3, l4, l5, l6, l7, l8, l9, l10, l11, l12, l13, l14, l15, l16, l17, l18, l19, l20, l21, l22, l23, l24, l25] (.int x :: S) H Q := s0_18 (fun q => s0_25 (h 0 (Or.inr ⟨q, rfl⟩))) (fun q => s0_21 (s0_22 (h 1 (Or.inl ⟨q, rfl⟩))))
theorem b0_32 {rm : Room} {S : List Value} {H : AHeap} {Q : Option Value → AHeap → Prop} {l0 l1 l2 l3 l4 l5 l6 l7 l8 l9 l10 l11 l12 l13 l14 l15 l16 l17 l18 l19 l20 l21 l22 l23 l24 l25 : Slot} {x : Int32} (h : ∀ t : Int32, ((¬ x = 0) ∧ t = 1) ∨ ((x = 0) ∧ t = 0) → W0 rm 40 [l0, l1, l2, l3, l4, l5, l6, l7, l8, l9, l10, l11, l12, l13, l14, l15, l16, l17, l18, l19, l20, l21, l22, l23, l24, l25] (.int t :: S) H Q) : W0 rm 32 [l0, l1, l2, l3, l4, l5, l6, l7, l8, l9, l10, l11, l12, l13, l14, l15, l16, l17, l18, l19, l20, l21, l22, l23, l24, l25] (.int x :: S) H Q := s0_32 (fun q => s0_39 (h 0 (Or.inr ⟨q, rfl⟩))) (fun q => s0_35 (s0_36 (h 1 (Or.inl ⟨q, rfl⟩))))
theorem b0_47 {rm : Room} {S : List Value} {H : AHeap} {Q : Option Value → AHeap → Prop} {l0 l1 l2 l3 l4 l5 l6 l7 l8 l9 l10 l11 l12 l13 l14 l15 l16 l17 l18 l19 l20 l21 l22 l23 l24 l25 : Slot} {x : Int32} (h : ∀ t : Int32, ((¬ x = 0) ∧ t = 1) ∨ ((x = 0) ∧ t = 0) → W0 rm 55 [l0, l1, l2, l3, l4, l5, l6, l7, l8, l9, l10, l11, l12, l13, l14, l15, l16, l17, l18, l19, l20, l21, l22, l23, l24, l25] (.int t :: S) H Q) : W0 rm 47 [l0, l1, l2, l3, l4, l5, l6, l7, l8, l9, l10, l11, l12, l13, l14, l15, l16, l17, l18, l19, l20, l21, l22, l23, l24, l25] (.int x :: S) H Q := s0_47 (fun q => s0_54 (h 0 (Or.inr ⟨q, rfl⟩))) (fun q => s0_50 (s0_51 (h 1 (Or.inl ⟨q, rfl⟩))))
theorem b0_157 {rm : Room} {S : List Value} {H : AHeap} {Q : Option Value → AHeap → Prop} {l0 l1 l2 l3 l4 l5 l6 l7 l8 l9 l10 l11 l12 l13 l14 l15 l16 l17 l18 l19 l20 l21 l22 l23 l24 l25 : Slot} {x : Int32} (h : ∀ t : Int32, ((¬ x = 0) ∧ t = 0) ∨ ((x = 0) ∧ t = 1) → W0 rm 165 [l0, l1, l2, l3, l4, l5, l6, l7, l8, l9, l10, l11, l12, l13, l14, l15, l16, l17, l18, l19, l20, l21, l22, l23, l24, l25] (.int t :: S) H Q) : W0 rm 157 [l0, l1, l2, l3, l4, l5, l6, l7, l8, l9, l10, l11, l12, l13, l14, l15, l16, l17, l18, l19, l20, l21, l22, l23, l24, l25] (.int x :: S) H Q := s0_157 (fun q => s0_164 (h 1 (Or.inr ⟨q, rfl⟩))) (fun q => s0_160 (s0_161 (h 0 (Or.inl ⟨q, rfl⟩))))
theorem b0_189 {rm : Room} {S : List Value} {H : AHeap} {Q : Option Value → AHeap → Prop} {l0 l1 l2 l3 l4 l5 l6 l7 l8 l9 l10 l11 l12 l13 l14 l15 l16 l17 l18 l19 l20 l21 l22 l23 l24 l25 : Slot} {x : Int32} (h : ∀ t : Int32, ((¬ x = 0) ∧ t = 1) ∨ ((x = 0) ∧ t = 0) → W0 rm 197 [l0, l1, l2, l3, l4, l5, l6, l7, l8, l9, l10, l11, l12, l13, l14, l15, l16, l17, l18, l19, l20, l21, l22, l23, l24, l25] (.int t :: S) H Q) : W0 rm 189 [l0, l1, l2, l3, l4, l5, l6, l7, l8, l9, l10, l11, l12, l13, l14, l15, l16, l17, l18, l19, l20, l21, l22, l23, l24, l25] (.int x :: S) H Q := s0_189 (fun q => s0_196 (h 0 (Or.inr ⟨q, rfl⟩))) (fun q => s0_192 (s0_193 (h 1 (Or.inl ⟨q, rfl⟩))))
theorem b0_211 {rm : Room} {S : List Value} {H : AHeap} {Q : Option Value → AHeap → Prop} {l0 l1 l2 l3 l4 l5 l6 l7 l8 l9 l10 l11 l12 l13 l14 l15 l16 l17 l18 l19 l20 l21 l22 l23 l24 l25 : Slot} {x : Int32} (h : ∀ t : Int32, ((¬ x = 0) ∧ t = 1) ∨ ((x = 0) ∧ t = 0) → W0 rm 219 [l0, l1, l2, l3, l4, l5, l6, l7, l8, l9, l10, l11, l12, l13, l14, l15, l16, l17, l18, l19, l20, l21, l22, l23, l24, l25] (.int t :: S) H Q) : W0 rm 211 [l0, l1, l2, l3, l4, l5, l6, l7, l8, l9, l10, l11, l12, l13, l14, l15, l16, l17, l18, l19, l20, l21, l22, l23, l24, l25] (.int x :: S) H Q := s0_211 (fun q => s0_218 (h 0 (Or.inr ⟨q, rfl⟩))) (fun q => s0_214 (s0_215 (h 1 (Or.inl ⟨q, rfl⟩))))
theorem b0_233 {rm : Room} {S : List Value} {H : AHeap} {Q : Option Value → AHeap → Prop} {l0 l1 l2 l3 l4 l5 l6 l7 l8 l9 l10 l11 l12 l13 l14 l15 l16 l17 l18 l19 l20 l21 l22 l23 l24 l25 : Slot} {x : Int32} (h : ∀ t : Int32, ((¬ x = 0) ∧ t = 1) ∨ ((x = 0) ∧ t = 0) → W0 rm 241 [l0, l1, l2, l3, l4, l5, l6, l7, l8, l9, l10, l11, l12, l13, l14, l15, l16, l17, l18, l19, l20, l21, l22, l23, l24, l25] (.int t :: S) H Q) : W0 rm 233 [l0, l1, l2, l3, l4, l5, l6, l7, l8, l9, l10, l11, l12, l13, l14, l15, l16, l17, l18, l19, l20, l21, l22, l23, l24, l25] (.int x :: S) H Q := s0_233 (fun q => s0_240 (h 0 (Or.inr ⟨q, rfl⟩))) (fun q => s0_236 (s0_237 (h 1 (Or.inl ⟨q, rfl⟩))))
theorem b0_368 {rm : Room} {S : List Value} {H : AHeap} {Q : Option Value → AHeap → Prop} {l0 l1 l2 l3 l4 l5 l6 l7 l8 l9 l10 l11 l12 l13 l14 l15 l16 l17 l18 l19 l20 l21 l22 l23 l24 l25 : Slot} {x : Int32} (h : ∀ t : Int32, ((¬ x = 0) ∧ t = 1) ∨ ((x = 0) ∧ t = 0) → W0 rm 376 [l0, l1, l2, l3, l4, l5, l6, l7, l8, l9, l10, l11, l12, l13, l14, l15, l16, l17, l18, l19, l20, l21, l22, l23, l24, l25] (.int t :: S) H Q) : W0 rm 368 [l0, l1, l2, l3, l4, l5, l6, l7, l8, l9, l10, l11, l12, l13, l14, l15, l16, l17, l18, l19, l20, l21, l22, l23, l24, l25] (.int x :: S) H Q := s0_368 (fun q => s0_375 (h 0 (Or.inr ⟨q, rfl⟩))) (fun q => s0_371 (s0_372 (h 1 (Or.inl ⟨q, rfl⟩))))
theorem b0_421 {rm : Room} {S : List Value} {H : AHeap} {Q : Option Value → AHeap → Prop} {l0 l1 l2 l3 l4 l5 l6 l7 l8 l9 l10 l11 l12 l13 l14 l15 l16 l17 l18 l19 l20 l21 l22 l23 l24 l25 : Slot} {x : Int32} (h : ∀ t : Int32, ((x = 0) ∧ t = 1) ∨ ((¬ x = 0) ∧ t = 0) → W0 rm 429 [l0, l1, l2, l3, l4, l5, l6, l7, l8, l9, l10, l11, l12, l13, l14, l15, l16, l17, l18, l19, l20, l21, l22, l23, l24, l25] (.int t :: S) H Q) : W0 rm 421 [l0, l1, l2, l3, l4, l5, l6, l7, l8, l9, l10, l11, l12, l13, l14, l15, l16, l17, l18, l19, l20, l21, l22, l23, l24, l25] (.int x :: S) H Q := s0_421 (fun q => s0_428 (h 0 (Or.inr ⟨q, rfl⟩))) (fun q => s0_424 (s0_425 (h 1 (Or.inl ⟨q, rfl⟩))))
theorem b0_420c {rm : Room} {S : List Value} {H : AHeap} {Q : Option Value → AHeap → Prop} {l0 l1 l2 l3 l4 l5 l6 l7 l8 l9 l10 l11 l12 l13 l14 l15 l16 l17 l18 l19 l20 l21 l22 l23 l24 l25 : Slot} {x y : Int64} (h : ∀ t : Int32, ((x = y) ∧ t = 1) ∨ ((¬ x = y) ∧ t = 0) → W0 rm 429 [l0, l1, l2, l3, l4, l5, l6, l7, l8, l9, l10, l11, l12, l13, l14, l15, l16, l17, l18, l19, l20, l21, l22, l23, l24, l25] (.int t :: S) H Q) : W0 rm 420 [l0, l1, l2, l3, l4, l5, l6, l7, l8, l9, l10, l11, l12, l13, l14, l15, l16, l17, l18, l19, l20, l21, l22, l23, l24, l25] (.long y :: .long x :: S) H Q := s0_420c (fun q => s0_428 (h 0 (Or.inr ⟨q, rfl⟩))) (fun q => s0_424 (s0_425 (h 1 (Or.inl ⟨q, rfl⟩))))
theorem b7_82 {rm : Room} {S : List Value} {H : AHeap} {Q : Option Value → AHeap → Prop} {l0 l1 l2 l3 l4 : Slot} {x : Int32} (h : ∀ t : Int32, ((¬ x = 0) ∧ t = 1) ∨ ((x = 0) ∧ t = 0) → W7 rm 90 [l0, l1, l2, l3, l4] (.int t :: S) H Q) : W7 rm 82 [l0, l1, l2, l3, l4] (.int x :: S) H Q := s7_82 (fun q => s7_89 (h 0 (Or.inr ⟨q, rfl⟩))) (fun q => s7_85 (s7_86 (h 1 (Or.inl ⟨q, rfl⟩))))
theorem b7_81c {rm : Room} {S : List Value} {H : AHeap} {Q : Option Value → AHeap → Prop} {l0 l1 l2 l3 l4 : Slot} {x y : Int64} (h : ∀ t : Int32, ((¬ x = y) ∧ t = 1) ∨ ((x = y) ∧ t = 0) → W7 rm 90 [l0, l1, l2, l3, l4] (.int t :: S) H Q) : W7 rm 81 [l0, l1, l2, l3, l4] (.long y :: .long x :: S) H Q := s7_81c (fun q => s7_89 (h 0 (Or.inr ⟨q, rfl⟩))) (fun q => s7_85 (s7_86 (h 1 (Or.inl ⟨q, rfl⟩))))
theorem b8_7 {rm : Room} {S : List Value} {H : AHeap} {Q : Option Value → AHeap → Prop} {l0 l1 l2 l3 : Slot} {x : Int32} (h : ∀ t : Int32, ((¬ 0 < x) ∧ t = 1) ∨ ((0 < x) ∧ t = 0) → W8 rm 15 [l0, l1, l2, l3] (.int t :: S) H Q) : W8 rm 7 [l0, l1, l2, l3] (.int x :: S) H Q := s8_7 (fun q => s8_14 (h 0 (Or.inr ⟨q, rfl⟩))) (fun q => s8_10 (s8_11 (h 1 (Or.inl ⟨q, rfl⟩))))
theorem b8_6c {rm : Room} {S : List Value} {H : AHeap} {Q : Option Value → AHeap → Prop} {l0 l1 l2 l3 : Slot} {x y : Int64} (h : ∀ t : Int32, ((¬ y < x) ∧ t = 1) ∨ ((y < x) ∧ t = 0) → W8 rm 15 [l0, l1, l2, l3] (.int t :: S) H Q) : W8 rm 6 [l0, l1, l2, l3] (.long y :: .long x :: S) H Q := s8_6c (fun q => s8_14 (h 0 (Or.inr ⟨q, rfl⟩))) (fun q => s8_10 (s8_11 (h 1 (Or.inl ⟨q, rfl⟩))))
theorem own_lt (a : Int32) : a.toInt64 < 9223372036854775807 := by
  rw [Int64.lt_iff_toInt_lt, Int32.toInt_toInt64]
  have h := rng32 a
  simp only [Int64.reduceToInt]; omega
theorem own_ne (a : Int32) : ¬ a.toInt64 = 9223372036854775807 := by
  rw [← Int64.toInt_inj, Int32.toInt_toInt64]
  have h := rng32 a
  simp only [Int64.reduceToInt]; omega
theorem own_fit1 (x pd : Int32) (w : Int64) (H : AHeap) (h : ¬ w < x.toInt64 - pd.toInt64) : M8 ⟨0, 0, 0, 0⟩ [.int x, .int pd, .long w] H (Is (some (.int 1)) H) := by
  refine e8 ?_
  refine s8_0 ?_
  refine s8_1 ?_
  refine s8_2 ?_
  refine s8_3 ?_
  refine s8_4 ?_
  refine s8_5 ?_
  exact s8_6c (fun q => absurd q h) (fun _ => s8_10 (s8_11 (s8_15 ⟨rfl, rfl⟩)))
theorem own_fit0 (x pd : Int32) (w : Int64) (H : AHeap) (h : w < x.toInt64 - pd.toInt64) : M8 ⟨0, 0, 0, 0⟩ [.int x, .int pd, .long w] H (Is (some (.int 0)) H) := by
  refine e8 ?_
  refine s8_0 ?_
  refine s8_1 ?_
  refine s8_2 ?_
  refine s8_3 ?_
  refine s8_4 ?_
  refine s8_5 ?_
  exact s8_6c (fun _ => s8_14 (s8_15 ⟨rfl, rfl⟩)) (fun q => absurd h q)
theorem own_r0 (a b c pd : Int32) (w : Int64) : M2 ⟨1, 3, 34, 12⟩ [.ref 2, .ref 0, .ref 1] [(.inr (.int, [.int 0, .int 1]) : ACell), (.inr (.int, [.int 1, .int 1]) : ACell), (.inl (0, [.null, .null, .null, .null, .long 0, .null, .null, .null, .long 0]) : ACell)] (Is none [(.inr (.int, [.int 0, .int 1]) : ACell), (.inr (.int, [.int 1, .int 1]) : ACell), (.inl (0, [.ref 3, .ref 4, .ref 0, .ref 5, .long 0, .null, .null, .null, .long 0]) : ACell), (.inr (.long, [.long 0, .long 0, .long 0, .long 0, .long 0, .long 0, .long 0, .long 0, .long 0, .long 0, .long 0, .long 0, .long 0, .long 0, .long 0, .long 0]) : ACell), (.inr (.int, [.int 0, .int 0, .int 0, .int 0, .int 0, .int 0, .int 0, .int 0, .int 0, .int 0, .int 0, .int 0, .int 0, .int 0, .int 0, .int 0]) : ACell), (.inr (.int, [.int 1, .int 2]) : ACell)]) := by
  refine e2 ?_
  refine s2_0 ?_
  refine s2_1 rfl ?_
  refine s2_4 ?_
  refine s2_5 ?_
  refine s2_7 3 16 (by decide) rfl rfl ?_
  refine s2_9 rfl ?_
  refine s2_12 ?_
  refine s2_13 ?_
  refine s2_15 4 16 (by decide) rfl rfl ?_
  refine s2_17 rfl ?_
  refine s2_20 ?_
  refine s2_21 ?_
  refine s2_22 rfl ?_
  refine s2_25 ?_
  refine s2_26 ?_
  refine s2_27k 2 rfl rfl ?_
  refine s2_28 5 2 (by decide) rfl rfl ?_
  refine s2_30 rfl ?_
  refine s2_33 ?_
  refine s2_34 rfl ?_
  refine s2_35 ?_
  refine s2_36 ?_
  refine s2_37k 2 rfl rfl ?_
  refine s2_38 (fun h => absurd h (by decide)) (fun _ => ?_)
  refine s2_41 ?_
  refine s2_42 rfl ?_
  refine s2_45 ?_
  refine s2_46 ?_
  refine s2_47 ?_
  refine s2_48 0 rfl (by decide) rfl ?_
  refine s2_49 ?_
  refine s2_50 ?_
  refine s2_51 0 rfl (by decide) rfl ?_
  refine s2_52 ?_
  refine s2_53 0 rfl (by decide) rfl ?_
  refine s2_54 ?_
  refine s2_57 ?_
  refine s2_35 ?_
  refine s2_36 ?_
  refine s2_37k 2 rfl rfl ?_
  refine s2_38 (fun h => absurd h (by decide)) (fun _ => ?_)
  refine s2_41 ?_
  refine s2_42 rfl ?_
  refine s2_45 ?_
  refine s2_46 ?_
  refine s2_47 ?_
  refine s2_48 1 rfl (by decide) rfl ?_
  refine s2_49 ?_
  refine s2_50 ?_
  refine s2_51 1 rfl (by decide) rfl ?_
  refine s2_52 ?_
  refine s2_53 1 rfl (by decide) rfl ?_
  refine s2_54 ?_
  refine s2_57 ?_
  refine s2_35 ?_
  refine s2_36 ?_
  refine s2_37k 2 rfl rfl ?_
  refine s2_38 (fun _ => ?_) (fun h => absurd h (by decide))
  exact s2_60 ⟨rfl, rfl⟩
theorem own_r1 (a b c pd : Int32) (w : Int64) : M3 ⟨0, 0, 0, 0⟩ [.ref 7, .long 9223372036854775807] [(.inr (.int, [.int 0, .int 1]) : ACell), (.inr (.int, [.int 1, .int 1]) : ACell), (.inl (0, [.ref 3, .ref 4, .ref 0, .ref 5, .long w, .ref 6, .ref 7, .null, .long 0]) : ACell), (.inr (.long, [.long 0, .long 0, .long 0, .long 0, .long 0, .long 0, .long 0, .long 0, .long 0, .long 0, .long 0, .long 0, .long 0, .long 0, .long 0, .long 0]) : ACell), (.inr (.int, [.int 0, .int 0, .int 0, .int 0, .int 0, .int 0, .int 0, .int 0, .int 0, .int 0, .int 0, .int 0, .int 0, .int 0, .int 0, .int 0]) : ACell), (.inr (.int, [.int 1, .int 2]) : ACell), (.inr (.int, [.int 0, .int 1]) : ACell), (.inr (.long, [.long 0, .long 0, .long 0]) : ACell)] (Is none [(.inr (.int, [.int 0, .int 1]) : ACell), (.inr (.int, [.int 1, .int 1]) : ACell), (.inl (0, [.ref 3, .ref 4, .ref 0, .ref 5, .long w, .ref 6, .ref 7, .null, .long 0]) : ACell), (.inr (.long, [.long 0, .long 0, .long 0, .long 0, .long 0, .long 0, .long 0, .long 0, .long 0, .long 0, .long 0, .long 0, .long 0, .long 0, .long 0, .long 0]) : ACell), (.inr (.int, [.int 0, .int 0, .int 0, .int 0, .int 0, .int 0, .int 0, .int 0, .int 0, .int 0, .int 0, .int 0, .int 0, .int 0, .int 0, .int 0]) : ACell), (.inr (.int, [.int 1, .int 2]) : ACell), (.inr (.int, [.int 0, .int 1]) : ACell), (.inr (.long, [.long 9223372036854775807, .long 9223372036854775807, .long 9223372036854775807]) : ACell)]) := by
  refine e3 ?_
  refine s3_0 ?_
  refine s3_1 rfl ?_
  refine s3_2 ?_
  refine s3_3k 3 rfl rfl ?_
  refine s3_4 rfl ?_
  refine s3_6 ?_
  refine s3_7 ?_
  refine s3_9 (fun h => absurd h (by decide)) (fun _ => ?_)
  refine s3_12 ?_
  refine s3_13 ?_
  refine s3_14 ?_
  refine s3_15 0 rfl (by decide) rfl ?_
  refine s3_16 ?_
  refine s3_19 ?_
  refine s3_6 ?_
  refine s3_7 ?_
  refine s3_9 (fun h => absurd h (by decide)) (fun _ => ?_)
  refine s3_12 ?_
  refine s3_13 ?_
  refine s3_14 ?_
  refine s3_15 1 rfl (by decide) rfl ?_
  refine s3_16 ?_
  refine s3_19 ?_
  refine s3_6 ?_
  refine s3_7 ?_
  refine s3_9 (fun h => absurd h (by decide)) (fun _ => ?_)
  refine s3_12 ?_
  refine s3_13 ?_
  refine s3_14 ?_
  refine s3_15 2 rfl (by decide) rfl ?_
  refine s3_16 ?_
  refine s3_19 ?_
  refine s3_6 ?_
  refine s3_7 ?_
  refine s3_9 (fun _ => ?_) (fun h => absurd h (by decide))
  exact s3_22 ⟨rfl, rfl⟩
theorem own_r2 (a b c pd : Int32) (w : Int64) : M1 ⟨2, 6, 41, 27⟩ [.ref 2, .ref 0, .ref 1, .long w] [(.inr (.int, [.int 0, .int 1]) : ACell), (.inr (.int, [.int 1, .int 1]) : ACell), (.inl (0, [.null, .null, .null, .null, .long 0, .null, .null, .null, .long 0]) : ACell)] (Is none [(.inr (.int, [.int 0, .int 1]) : ACell), (.inr (.int, [.int 1, .int 1]) : ACell), (.inl (0, [.ref 3, .ref 4, .ref 0, .ref 5, .long w, .ref 6, .ref 7, .ref 8, .long 0]) : ACell), (.inr (.long, [.long 0, .long 0, .long 0, .long 0, .long 0, .long 0, .long 0, .long 0, .long 0, .long 0, .long 0, .long 0, .long 0, .long 0, .long 0, .long 0]) : ACell), (.inr (.int, [.int 0, .int 0, .int 0, .int 0, .int 0, .int 0, .int 0, .int 0, .int 0, .int 0, .int 0, .int 0, .int 0, .int 0, .int 0, .int 0]) : ACell), (.inr (.int, [.int 1, .int 2]) : ACell), (.inr (.int, [.int 0, .int 1]) : ACell), (.inr (.long, [.long 9223372036854775807, .long 9223372036854775807, .long 9223372036854775807]) : ACell), (.inr (.long, [.long 0, .long 0]) : ACell)]) := by
  refine e1 ?_
  refine s1_0 ?_
  refine s1_1 ?_
  refine s1_2 ?_
  refine s1_3 (own_r0 a b c pd w) rfl ?_
  refine s1_6 ?_
  refine s1_7 ?_
  refine s1_8 rfl ?_
  refine s1_11 ?_
  refine s1_12 ?_
  refine s1_13k 2 rfl rfl ?_
  refine s1_14 6 2 (by decide) rfl rfl ?_
  refine s1_16 rfl ?_
  refine s1_19 ?_
  refine s1_20 rfl ?_
  refine s1_22 ?_
  refine s1_23 rfl ?_
  refine s1_25 ?_
  refine s1_27 ?_
  refine s1_28k 2 rfl rfl ?_
  refine s1_29 (fun h => absurd h (by decide)) (fun _ => ?_)
  refine s1_32 ?_
  refine s1_33 rfl ?_
  refine s1_36 ?_
  refine s1_38 ?_
  refine s1_40 0 rfl (by decide) rfl ?_
  refine s1_41 ?_
  refine s1_43 ?_
  refine s1_44 rfl ?_
  refine s1_47 ?_
  refine s1_49 0 rfl (by decide) rfl ?_
  refine s1_50 ?_
  refine s1_51 rfl ?_
  refine s1_53 ?_
  refine s1_56 ?_
  refine s1_25 ?_
  refine s1_27 ?_
  refine s1_28k 2 rfl rfl ?_
  refine s1_29 (fun h => absurd h (by decide)) (fun _ => ?_)
  refine s1_32 ?_
  refine s1_33 rfl ?_
  refine s1_36 ?_
  refine s1_38 ?_
  refine s1_40 1 rfl (by decide) rfl ?_
  refine s1_41 ?_
  refine s1_43 ?_
  refine s1_44 rfl ?_
  refine s1_47 ?_
  refine s1_49 1 rfl (by decide) rfl ?_
  refine s1_50 ?_
  refine s1_51 rfl ?_
  refine s1_53 ?_
  refine s1_56 ?_
  refine s1_25 ?_
  refine s1_27 ?_
  refine s1_28k 2 rfl rfl ?_
  refine s1_29 (fun _ => ?_) (fun h => absurd h (by decide))
  refine s1_59 ?_
  refine s1_60 ?_
  refine s1_62 7 3 (by decide) rfl rfl ?_
  refine s1_64 rfl ?_
  refine s1_67 ?_
  refine s1_68 rfl ?_
  refine s1_71 ?_
  refine s1_74 (own_r1 a b c pd w) rfl ?_
  refine s1_77 ?_
  refine s1_78 ?_
  refine s1_79k 2 rfl rfl ?_
  refine s1_80 8 2 (by decide) rfl rfl ?_
  refine s1_82 rfl ?_
  exact s1_85 ⟨rfl, rfl⟩
theorem own_r3 (a b c pd : Int32) (w : Int64) : M7 ⟨0, 0, 0, 0⟩ [.ref 2, .int 1, .int pd] [(.inr (.int, [.int 0, .int 1]) : ACell), (.inr (.int, [.int 1, .int 1]) : ACell), (.inl (0, [.ref 3, .ref 4, .ref 0, .ref 5, .long w, .ref 6, .ref 7, .ref 8, .long 0]) : ACell), (.inr (.long, [.long 0, .long 0, .long 0, .long 0, .long 0, .long 0, .long 0, .long 0, .long 0, .long 0, .long 0, .long 0, .long 0, .long 0, .long 0, .long 0]) : ACell), (.inr (.int, [.int 0, .int 0, .int 0, .int 0, .int 0, .int 0, .int 0, .int 0, .int 0, .int 0, .int 0, .int 0, .int 0, .int 0, .int 0, .int 0]) : ACell), (.inr (.int, [.int 1, .int 2]) : ACell), (.inr (.int, [.int 0, .int 1]) : ACell), (.inr (.long, [.long 9223372036854775807, .long 9223372036854775807, .long 9223372036854775807]) : ACell), (.inr (.long, [.long 0, .long 0]) : ACell)] (Is (some (.int 0)) [(.inr (.int, [.int 0, .int 1]) : ACell), (.inr (.int, [.int 1, .int 1]) : ACell), (.inl (0, [.ref 3, .ref 4, .ref 0, .ref 5, .long w, .ref 6, .ref 7, .ref 8, .long 0]) : ACell), (.inr (.long, [.long 0, .long 0, .long 0, .long 0, .long 0, .long 0, .long 0, .long 0, .long 0, .long 0, .long 0, .long 0, .long 0, .long 0, .long 0, .long 0]) : ACell), (.inr (.int, [.int 0, .int 0, .int 0, .int 0, .int 0, .int 0, .int 0, .int 0, .int 0, .int 0, .int 0, .int 0, .int 0, .int 0, .int 0, .int 0]) : ACell), (.inr (.int, [.int 1, .int 2]) : ACell), (.inr (.int, [.int 0, .int 1]) : ACell), (.inr (.long, [.long 9223372036854775807, .long 9223372036854775807, .long 9223372036854775807]) : ACell), (.inr (.long, [.long 0, .long 0]) : ACell)]) := by
  refine e7 ?_
  refine s7_0 ?_
  refine s7_1 rfl ?_
  refine s7_2 ?_
  refine s7_3 rfl ?_
  refine s7_6 ?_
  refine s7_7 1 rfl (by decide) rfl ?_
  refine s7_8 rfl ?_
  refine s7_10 ?_
  refine s7_12 ?_
  refine s7_13 rfl ?_
  refine s7_16 ?_
  refine s7_17 1 rfl (by decide) rfl ?_
  refine s7_18 ?_
  refine s7_19 rfl ?_
  refine s7_22 ?_
  refine s7_23 1 rfl (by decide) rfl ?_
  refine s7_24 ?_
  refine s7_25 (fun h => absurd h (by decide)) (fun _ => ?_)
  refine s7_28 ?_
  refine s7_29 rfl ?_
  refine s7_32 ?_
  refine s7_34 1 rfl (by decide) rfl ?_
  refine s7_35 ?_
  refine s7_38c (fun _ => ?_) (fun h => absurd h (by decide))
  refine s7_70 ?_
  refine s7_71 ?_
  refine s7_72 rfl ?_
  refine s7_75 ?_
  refine s7_77 1 rfl (by decide) rfl ?_
  refine s7_78 ?_
  refine s7_81c (fun _ => ?_) (fun h => absurd h (by decide))
  refine s7_89 ?_
  refine s7_90 ?_
  refine s7_91 rfl ?_
  refine s7_92 ?_
  refine s7_95 ?_
  refine s7_10 ?_
  refine s7_12 ?_
  refine s7_13 rfl ?_
  refine s7_16 ?_
  refine s7_17 1 rfl (by decide) rfl ?_
  refine s7_18 ?_
  refine s7_19 rfl ?_
  refine s7_22 ?_
  refine s7_23 1 rfl (by decide) rfl ?_
  refine s7_24 ?_
  refine s7_25 (fun h => absurd h (by decide)) (fun _ => ?_)
  refine s7_28 ?_
  refine s7_29 rfl ?_
  refine s7_32 ?_
  refine s7_34 2 rfl (by decide) rfl ?_
  refine s7_35 ?_
  refine s7_38c (fun _ => ?_) (fun h => absurd h (by decide))
  refine s7_70 ?_
  refine s7_71 ?_
  refine s7_72 rfl ?_
  refine s7_75 ?_
  refine s7_77 2 rfl (by decide) rfl ?_
  refine s7_78 ?_
  refine s7_81c (fun _ => ?_) (fun h => absurd h (by decide))
  refine s7_89 ?_
  refine s7_90 ?_
  refine s7_91 rfl ?_
  refine s7_92 ?_
  refine s7_95 ?_
  refine s7_10 ?_
  refine s7_12 ?_
  refine s7_13 rfl ?_
  refine s7_16 ?_
  refine s7_17 1 rfl (by decide) rfl ?_
  refine s7_18 ?_
  refine s7_19 rfl ?_
  refine s7_22 ?_
  refine s7_23 1 rfl (by decide) rfl ?_
  refine s7_24 ?_
  refine s7_25 (fun _ => ?_) (fun h => absurd h (by decide))
  refine s7_98 ?_
  exact s7_99 ⟨rfl, rfl⟩
theorem own_r5 (a b c pd : Int32) (w : Int64) : M9 ⟨0, 0, 0, 0⟩ [.ref 2, .int 0, .int 0] [(.inr (.int, [.int 0, .int 1]) : ACell), (.inr (.int, [.int 1, .int 1]) : ACell), (.inl (0, [.ref 3, .ref 4, .ref 0, .ref 5, .long w, .ref 6, .ref 7, .ref 8, .long 0]) : ACell), (.inr (.long, [.long 0, .long 0, .long 0, .long 0, .long 0, .long 0, .long 0, .long 0, .long 0, .long 0, .long 0, .long 0, .long 0, .long 0, .long 0, .long 0]) : ACell), (.inr (.int, [.int 0, .int 0, .int 0, .int 0, .int 0, .int 0, .int 0, .int 0, .int 0, .int 0, .int 0, .int 0, .int 0, .int 0, .int 0, .int 0]) : ACell), (.inr (.int, [.int 1, .int 2]) : ACell), (.inr (.int, [.int 0, .int 1]) : ACell), (.inr (.long, [.long 9223372036854775807, .long 9223372036854775807, .long 9223372036854775807]) : ACell), (.inr (.long, [.long 0, .long 0]) : ACell)] (Is (some (.long 9223372036854775807)) [(.inr (.int, [.int 0, .int 1]) : ACell), (.inr (.int, [.int 1, .int 1]) : ACell), (.inl (0, [.ref 3, .ref 4, .ref 0, .ref 5, .long w, .ref 6, .ref 7, .ref 8, .long 0]) : ACell), (.inr (.long, [.long 0, .long 0, .long 0, .long 0, .long 0, .long 0, .long 0, .long 0, .long 0, .long 0, .long 0, .long 0, .long 0, .long 0, .long 0, .long 0]) : ACell), (.inr (.int, [.int 0, .int 0, .int 0, .int 0, .int 0, .int 0, .int 0, .int 0, .int 0, .int 0, .int 0, .int 0, .int 0, .int 0, .int 0, .int 0]) : ACell), (.inr (.int, [.int 1, .int 2]) : ACell), (.inr (.int, [.int 0, .int 1]) : ACell), (.inr (.long, [.long 9223372036854775807, .long 9223372036854775807, .long 9223372036854775807]) : ACell), (.inr (.long, [.long 0, .long 0]) : ACell)]) := by
  refine e9 ?_
  refine s9_0 ?_
  refine s9_1 rfl ?_
  refine s9_4 ?_
  refine s9_5 rfl ?_
  refine s9_8 ?_
  refine s9_9 0 rfl (by decide) rfl ?_
  refine s9_10 ?_
  refine s9_11 ?_
  refine s9_12 0 rfl (by decide) rfl ?_
  exact s9_13 ⟨rfl, rfl⟩
theorem own_r6 (a b c pd : Int32) (w : Int64) : M9 ⟨0, 0, 0, 0⟩ [.ref 2, .int 1, .int 0] [(.inr (.int, [.int 0, .int 1]) : ACell), (.inr (.int, [.int 1, .int 1]) : ACell), (.inl (0, [.ref 3, .ref 4, .ref 0, .ref 5, .long w, .ref 6, .ref 7, .ref 8, .long 0]) : ACell), (.inr (.long, [.long 0, .long 0, .long 0, .long 0, .long 0, .long 0, .long 0, .long 0, .long 0, .long 0, .long 0, .long 0, .long 0, .long 0, .long 0, .long 0]) : ACell), (.inr (.int, [.int 0, .int 0, .int 0, .int 0, .int 0, .int 0, .int 0, .int 0, .int 0, .int 0, .int 0, .int 0, .int 0, .int 0, .int 0, .int 0]) : ACell), (.inr (.int, [.int 1, .int 2]) : ACell), (.inr (.int, [.int 0, .int 1]) : ACell), (.inr (.long, [.long 9223372036854775807, .long 9223372036854775807, .long 9223372036854775807]) : ACell), (.inr (.long, [.long 0, .long 0]) : ACell)] (Is (some (.long 9223372036854775807)) [(.inr (.int, [.int 0, .int 1]) : ACell), (.inr (.int, [.int 1, .int 1]) : ACell), (.inl (0, [.ref 3, .ref 4, .ref 0, .ref 5, .long w, .ref 6, .ref 7, .ref 8, .long 0]) : ACell), (.inr (.long, [.long 0, .long 0, .long 0, .long 0, .long 0, .long 0, .long 0, .long 0, .long 0, .long 0, .long 0, .long 0, .long 0, .long 0, .long 0, .long 0]) : ACell), (.inr (.int, [.int 0, .int 0, .int 0, .int 0, .int 0, .int 0, .int 0, .int 0, .int 0, .int 0, .int 0, .int 0, .int 0, .int 0, .int 0, .int 0]) : ACell), (.inr (.int, [.int 1, .int 2]) : ACell), (.inr (.int, [.int 0, .int 1]) : ACell), (.inr (.long, [.long 9223372036854775807, .long 9223372036854775807, .long 9223372036854775807]) : ACell), (.inr (.long, [.long 0, .long 0]) : ACell)]) := by
  refine e9 ?_
  refine s9_0 ?_
  refine s9_1 rfl ?_
  refine s9_4 ?_
  refine s9_5 rfl ?_
  refine s9_8 ?_
  refine s9_9 1 rfl (by decide) rfl ?_
  refine s9_10 ?_
  refine s9_11 ?_
  refine s9_12 1 rfl (by decide) rfl ?_
  exact s9_13 ⟨rfl, rfl⟩
theorem own_r7 (a b c pd : Int32) (w : Int64) : M9 ⟨0, 0, 0, 0⟩ [.ref 2, .int 1, .int 1] [(.inr (.int, [.int 0, .int 1]) : ACell), (.inr (.int, [.int 1, .int 1]) : ACell), (.inl (0, [.ref 3, .ref 4, .ref 0, .ref 5, .long w, .ref 6, .ref 7, .ref 8, .long 0]) : ACell), (.inr (.long, [.long 0, .long 0, .long 0, .long 0, .long 0, .long 0, .long 0, .long 0, .long 0, .long 0, .long 0, .long 0, .long 0, .long 0, .long 0, .long 0]) : ACell), (.inr (.int, [.int 0, .int 0, .int 0, .int 0, .int 0, .int 0, .int 0, .int 0, .int 0, .int 0, .int 0, .int 0, .int 0, .int 0, .int 0, .int 0]) : ACell), (.inr (.int, [.int 1, .int 2]) : ACell), (.inr (.int, [.int 0, .int 1]) : ACell), (.inr (.long, [.long 9223372036854775807, .long 9223372036854775807, .long 9223372036854775807]) : ACell), (.inr (.long, [.long 0, .long 0]) : ACell)] (Is (some (.long 9223372036854775807)) [(.inr (.int, [.int 0, .int 1]) : ACell), (.inr (.int, [.int 1, .int 1]) : ACell), (.inl (0, [.ref 3, .ref 4, .ref 0, .ref 5, .long w, .ref 6, .ref 7, .ref 8, .long 0]) : ACell), (.inr (.long, [.long 0, .long 0, .long 0, .long 0, .long 0, .long 0, .long 0, .long 0, .long 0, .long 0, .long 0, .long 0, .long 0, .long 0, .long 0, .long 0]) : ACell), (.inr (.int, [.int 0, .int 0, .int 0, .int 0, .int 0, .int 0, .int 0, .int 0, .int 0, .int 0, .int 0, .int 0, .int 0, .int 0, .int 0, .int 0]) : ACell), (.inr (.int, [.int 1, .int 2]) : ACell), (.inr (.int, [.int 0, .int 1]) : ACell), (.inr (.long, [.long 9223372036854775807, .long 9223372036854775807, .long 9223372036854775807]) : ACell), (.inr (.long, [.long 0, .long 0]) : ACell)]) := by
  refine e9 ?_
  refine s9_0 ?_
  refine s9_1 rfl ?_
  refine s9_4 ?_
  refine s9_5 rfl ?_
  refine s9_8 ?_
  refine s9_9 1 rfl (by decide) rfl ?_
  refine s9_10 ?_
  refine s9_11 ?_
  refine s9_12 2 rfl (by decide) rfl ?_
  exact s9_13 ⟨rfl, rfl⟩
theorem own_r8 (a b c pd : Int32) (w : Int64) : M4 ⟨0, 0, 0, 0⟩ [.ref 2, .int c] [(.inr (.int, [.int 0, .int 1]) : ACell), (.inr (.int, [.int 1, .int 1]) : ACell), (.inl (0, [.ref 3, .ref 4, .ref 0, .ref 5, .long w, .ref 6, .ref 7, .ref 8, .long 0]) : ACell), (.inr (.long, [.long 0, .long 0, .long 0, .long 0, .long 0, .long 0, .long 0, .long 0, .long 0, .long 0, .long 0, .long 0, .long 0, .long 0, .long 0, .long 0]) : ACell), (.inr (.int, [.int 0, .int 0, .int 0, .int 0, .int 0, .int 0, .int 0, .int 0, .int 0, .int 0, .int 0, .int 0, .int 0, .int 0, .int 0, .int 0]) : ACell), (.inr (.int, [.int 1, .int 2]) : ACell), (.inr (.int, [.int 0, .int 1]) : ACell), (.inr (.long, [.long 9223372036854775807, .long 9223372036854775807, .long 9223372036854775807]) : ACell), (.inr (.long, [.long 0, .long 0]) : ACell)] (Is none [(.inr (.int, [.int 0, .int 1]) : ACell), (.inr (.int, [.int 1, .int 1]) : ACell), (.inl (0, [.ref 3, .ref 4, .ref 0, .ref 5, .long w, .ref 6, .ref 7, .ref 8, .long (c).toInt64]) : ACell), (.inr (.long, [.long 0, .long 0, .long 0, .long 0, .long 0, .long 0, .long 0, .long 0, .long 0, .long 0, .long 0, .long 0, .long 0, .long 0, .long 0, .long 0]) : ACell), (.inr (.int, [.int 0, .int 0, .int 0, .int 0, .int 0, .int 0, .int 0, .int 0, .int 0, .int 0, .int 0, .int 0, .int 0, .int 0, .int 0, .int 0]) : ACell), (.inr (.int, [.int 1, .int 2]) : ACell), (.inr (.int, [.int 0, .int 1]) : ACell), (.inr (.long, [.long 9223372036854775807, .long 9223372036854775807, .long 9223372036854775807]) : ACell), (.inr (.long, [.long 0, .long 0]) : ACell)]) := by
  refine e4 ?_
  refine s4_0 ?_
  refine s4_1 ?_
  refine s4_2 ?_
  refine s4_3 rfl ?_
  exact s4_6 ⟨rfl, rfl⟩
theorem own_r9 (a b c pd : Int32) (w : Int64) : M6 ⟨0, 0, 0, 0⟩ [.long 9223372036854775807, .long (c).toInt64] [(.inr (.int, [.int 0, .int 1]) : ACell), (.inr (.int, [.int 1, .int 1]) : ACell), (.inl (0, [.ref 3, .ref 4, .ref 0, .ref 5, .long w, .ref 6, .ref 7, .ref 8, .long (c).toInt64]) : ACell), (.inr (.long, [.long 0, .long 0, .long 0, .long 0, .long 0, .long 0, .long 0, .long 0, .long 0, .long 0, .long 0, .long 0, .long 0, .long 0, .long 0, .long 0]) : ACell), (.inr (.int, [.int 0, .int 0, .int 0, .int 0, .int 0, .int 0, .int 0, .int 0, .int 0, .int 0, .int 0, .int 0, .int 0, .int 0, .int 0, .int 0]) : ACell), (.inr (.int, [.int 1, .int 2]) : ACell), (.inr (.int, [.int 0, .int 1]) : ACell), (.inr (.long, [.long 9223372036854775807, .long 9223372036854775807, .long 9223372036854775807]) : ACell), (.inr (.long, [.long 0, .long 0]) : ACell)] (Is (some (.long (c).toInt64)) [(.inr (.int, [.int 0, .int 1]) : ACell), (.inr (.int, [.int 1, .int 1]) : ACell), (.inl (0, [.ref 3, .ref 4, .ref 0, .ref 5, .long w, .ref 6, .ref 7, .ref 8, .long (c).toInt64]) : ACell), (.inr (.long, [.long 0, .long 0, .long 0, .long 0, .long 0, .long 0, .long 0, .long 0, .long 0, .long 0, .long 0, .long 0, .long 0, .long 0, .long 0, .long 0]) : ACell), (.inr (.int, [.int 0, .int 0, .int 0, .int 0, .int 0, .int 0, .int 0, .int 0, .int 0, .int 0, .int 0, .int 0, .int 0, .int 0, .int 0, .int 0]) : ACell), (.inr (.int, [.int 1, .int 2]) : ACell), (.inr (.int, [.int 0, .int 1]) : ACell), (.inr (.long, [.long 9223372036854775807, .long 9223372036854775807, .long 9223372036854775807]) : ACell), (.inr (.long, [.long 0, .long 0]) : ACell)]) := by
  refine e6 ?_
  refine s6_0 ?_
  refine s6_1 ?_
  refine s6_2c (fun _ => ?_) (fun h => absurd (own_lt _) h)
  refine s6_10 ?_
  exact s6_11 ⟨rfl, rfl⟩
theorem own_r10 (a b c pd : Int32) (w : Int64) : M5 ⟨1, 0, 0, 17⟩ [.ref 2, .int 0, .int 0, .int (-1)] [(.inr (.int, [.int 0, .int 1]) : ACell), (.inr (.int, [.int 1, .int 1]) : ACell), (.inl (0, [.ref 3, .ref 4, .ref 0, .ref 5, .long w, .ref 6, .ref 7, .ref 8, .long (c).toInt64]) : ACell), (.inr (.long, [.long 0, .long 0, .long 0, .long 0, .long 0, .long 0, .long 0, .long 0, .long 0, .long 0, .long 0, .long 0, .long 0, .long 0, .long 0, .long 0]) : ACell), (.inr (.int, [.int 0, .int 0, .int 0, .int 0, .int 0, .int 0, .int 0, .int 0, .int 0, .int 0, .int 0, .int 0, .int 0, .int 0, .int 0, .int 0]) : ACell), (.inr (.int, [.int 1, .int 2]) : ACell), (.inr (.int, [.int 0, .int 1]) : ACell), (.inr (.long, [.long 9223372036854775807, .long 9223372036854775807, .long 9223372036854775807]) : ACell), (.inr (.long, [.long 0, .long 0]) : ACell)] (Is none [(.inr (.int, [.int 0, .int 1]) : ACell), (.inr (.int, [.int 1, .int 1]) : ACell), (.inl (0, [.ref 3, .ref 4, .ref 0, .ref 5, .long w, .ref 6, .ref 7, .ref 8, .long (c).toInt64]) : ACell), (.inr (.long, [.long 0, .long 0, .long 0, .long 0, .long 0, .long 0, .long 0, .long 0, .long 0, .long 0, .long 0, .long 0, .long 0, .long 0, .long 0, .long 0]) : ACell), (.inr (.int, [.int 0, .int 0, .int 0, .int 0, .int 0, .int 0, .int 0, .int 0, .int 0, .int 0, .int 0, .int 0, .int 0, .int 0, .int 0, .int 0]) : ACell), (.inr (.int, [.int 1, .int 2]) : ACell), (.inr (.int, [.int 0, .int 1]) : ACell), (.inr (.long, [.long (c).toInt64, .long 9223372036854775807, .long 9223372036854775807]) : ACell), (.inr (.long, [.long 0, .long 0]) : ACell)]) := by
  refine e5 ?_
  refine s5_0 ?_
  refine s5_1 rfl ?_
  refine s5_4 ?_
  refine s5_5 0 rfl (by decide) rfl ?_
  refine s5_6 ?_
  refine s5_7 ?_
  refine s5_8 rfl ?_
  refine s5_10 ?_
  refine s5_11 rfl ?_
  refine s5_14 ?_
  refine s5_16 ?_
  refine s5_17 rfl ?_
  refine s5_20 ?_
  refine s5_22 0 rfl (by decide) rfl ?_
  refine s5_23 ?_
  refine s5_24 ?_
  refine s5_25 (fun h => absurd h (by decide)) (fun _ => ?_)
  refine s5_28 ?_
  refine s5_29 rfl ?_
  refine s5_32 ?_
  refine s5_48 (own_r9 a b c pd w) rfl ?_
  refine s5_51 0 rfl (by decide) rfl ?_
  exact s5_52 ⟨rfl, rfl⟩
theorem own_r11 (a b c pd : Int32) (w : Int64) (hc : ¬ w < c.toInt64 - pd.toInt64) : M7 ⟨0, 0, 0, 0⟩ [.ref 2, .int 1, .int pd] [(.inr (.int, [.int 0, .int 1]) : ACell), (.inr (.int, [.int 1, .int 1]) : ACell), (.inl (0, [.ref 3, .ref 4, .ref 0, .ref 5, .long w, .ref 6, .ref 7, .ref 8, .long (c).toInt64]) : ACell), (.inr (.long, [.long 0, .long 0, .long 0, .long 0, .long 0, .long 0, .long 0, .long 0, .long 0, .long 0, .long 0, .long 0, .long 0, .long 0, .long 0, .long 0]) : ACell), (.inr (.int, [.int 0, .int 0, .int 0, .int 0, .int 0, .int 0, .int 0, .int 0, .int 0, .int 0, .int 0, .int 0, .int 0, .int 0, .int 0, .int 0]) : ACell), (.inr (.int, [.int 1, .int 2]) : ACell), (.inr (.int, [.int 0, .int 1]) : ACell), (.inr (.long, [.long (c).toInt64, .long 9223372036854775807, .long 9223372036854775807]) : ACell), (.inr (.long, [.long 0, .long 0]) : ACell)] (Is (some (.int 0)) [(.inr (.int, [.int 0, .int 1]) : ACell), (.inr (.int, [.int 1, .int 1]) : ACell), (.inl (0, [.ref 3, .ref 4, .ref 0, .ref 5, .long w, .ref 6, .ref 7, .ref 8, .long (c).toInt64]) : ACell), (.inr (.long, [.long 0, .long 0, .long 0, .long 0, .long 0, .long 0, .long 0, .long 0, .long 0, .long 0, .long 0, .long 0, .long 0, .long 0, .long 0, .long 0]) : ACell), (.inr (.int, [.int 0, .int 0, .int 0, .int 0, .int 0, .int 0, .int 0, .int 0, .int 0, .int 0, .int 0, .int 0, .int 0, .int 0, .int 0, .int 0]) : ACell), (.inr (.int, [.int 1, .int 2]) : ACell), (.inr (.int, [.int 0, .int 1]) : ACell), (.inr (.long, [.long (c).toInt64, .long 9223372036854775807, .long 9223372036854775807]) : ACell), (.inr (.long, [.long 0, .long 0]) : ACell)]) := by
  refine e7 ?_
  refine s7_0 ?_
  refine s7_1 rfl ?_
  refine s7_2 ?_
  refine s7_3 rfl ?_
  refine s7_6 ?_
  refine s7_7 1 rfl (by decide) rfl ?_
  refine s7_8 rfl ?_
  refine s7_10 ?_
  refine s7_12 ?_
  refine s7_13 rfl ?_
  refine s7_16 ?_
  refine s7_17 1 rfl (by decide) rfl ?_
  refine s7_18 ?_
  refine s7_19 rfl ?_
  refine s7_22 ?_
  refine s7_23 1 rfl (by decide) rfl ?_
  refine s7_24 ?_
  refine s7_25 (fun h => absurd h (by decide)) (fun _ => ?_)
  refine s7_28 ?_
  refine s7_29 rfl ?_
  refine s7_32 ?_
  refine s7_34 1 rfl (by decide) rfl ?_
  refine s7_35 ?_
  refine s7_38c (fun _ => ?_) (fun h => absurd h (by decide))
  refine s7_70 ?_
  refine s7_71 ?_
  refine s7_72 rfl ?_
  refine s7_75 ?_
  refine s7_77 1 rfl (by decide) rfl ?_
  refine s7_78 ?_
  refine s7_81c (fun _ => ?_) (fun h => absurd h (by decide))
  refine s7_89 ?_
  refine s7_90 ?_
  refine s7_91 rfl ?_
  refine s7_92 ?_
  refine s7_95 ?_
  refine s7_10 ?_
  refine s7_12 ?_
  refine s7_13 rfl ?_
  refine s7_16 ?_
  refine s7_17 1 rfl (by decide) rfl ?_
  refine s7_18 ?_
  refine s7_19 rfl ?_
  refine s7_22 ?_
  refine s7_23 1 rfl (by decide) rfl ?_
  refine s7_24 ?_
  refine s7_25 (fun h => absurd h (by decide)) (fun _ => ?_)
  refine s7_28 ?_
  refine s7_29 rfl ?_
  refine s7_32 ?_
  refine s7_34 2 rfl (by decide) rfl ?_
  refine s7_35 ?_
  refine s7_38c (fun _ => ?_) (fun h => absurd h (by decide))
  refine s7_70 ?_
  refine s7_71 ?_
  refine s7_72 rfl ?_
  refine s7_75 ?_
  refine s7_77 2 rfl (by decide) rfl ?_
  refine s7_78 ?_
  refine s7_81c (fun _ => ?_) (fun h => absurd h (by decide))
  refine s7_89 ?_
  refine s7_90 ?_
  refine s7_91 rfl ?_
  refine s7_92 ?_
  refine s7_95 ?_
  refine s7_10 ?_
  refine s7_12 ?_
  refine s7_13 rfl ?_
  refine s7_16 ?_
  refine s7_17 1 rfl (by decide) rfl ?_
  refine s7_18 ?_
  refine s7_19 rfl ?_
  refine s7_22 ?_
  refine s7_23 1 rfl (by decide) rfl ?_
  refine s7_24 ?_
  refine s7_25 (fun _ => ?_) (fun h => absurd h (by decide))
  refine s7_98 ?_
  exact s7_99 ⟨rfl, rfl⟩
theorem own_r13 (a b c pd : Int32) (w : Int64) : M9 ⟨0, 0, 0, 0⟩ [.ref 2, .int 0, .int 0] [(.inr (.int, [.int 0, .int 1]) : ACell), (.inr (.int, [.int 1, .int 1]) : ACell), (.inl (0, [.ref 3, .ref 4, .ref 0, .ref 5, .long w, .ref 6, .ref 7, .ref 8, .long (c).toInt64]) : ACell), (.inr (.long, [.long 0, .long 0, .long 0, .long 0, .long 0, .long 0, .long 0, .long 0, .long 0, .long 0, .long 0, .long 0, .long 0, .long 0, .long 0, .long 0]) : ACell), (.inr (.int, [.int 0, .int 0, .int 0, .int 0, .int 0, .int 0, .int 0, .int 0, .int 0, .int 0, .int 0, .int 0, .int 0, .int 0, .int 0, .int 0]) : ACell), (.inr (.int, [.int 1, .int 2]) : ACell), (.inr (.int, [.int 0, .int 1]) : ACell), (.inr (.long, [.long (c).toInt64, .long 9223372036854775807, .long 9223372036854775807]) : ACell), (.inr (.long, [.long 0, .long 0]) : ACell)] (Is (some (.long (c).toInt64)) [(.inr (.int, [.int 0, .int 1]) : ACell), (.inr (.int, [.int 1, .int 1]) : ACell), (.inl (0, [.ref 3, .ref 4, .ref 0, .ref 5, .long w, .ref 6, .ref 7, .ref 8, .long (c).toInt64]) : ACell), (.inr (.long, [.long 0, .long 0, .long 0, .long 0, .long 0, .long 0, .long 0, .long 0, .long 0, .long 0, .long 0, .long 0, .long 0, .long 0, .long 0, .long 0]) : ACell), (.inr (.int, [.int 0, .int 0, .int 0, .int 0, .int 0, .int 0, .int 0, .int 0, .int 0, .int 0, .int 0, .int 0, .int 0, .int 0, .int 0, .int 0]) : ACell), (.inr (.int, [.int 1, .int 2]) : ACell), (.inr (.int, [.int 0, .int 1]) : ACell), (.inr (.long, [.long (c).toInt64, .long 9223372036854775807, .long 9223372036854775807]) : ACell), (.inr (.long, [.long 0, .long 0]) : ACell)]) := by
  refine e9 ?_
  refine s9_0 ?_
  refine s9_1 rfl ?_
  refine s9_4 ?_
  refine s9_5 rfl ?_
  refine s9_8 ?_
  refine s9_9 0 rfl (by decide) rfl ?_
  refine s9_10 ?_
  refine s9_11 ?_
  refine s9_12 0 rfl (by decide) rfl ?_
  exact s9_13 ⟨rfl, rfl⟩
theorem own_r14 (a b c pd : Int32) (w : Int64) : M9 ⟨0, 0, 0, 0⟩ [.ref 2, .int 1, .int 0] [(.inr (.int, [.int 0, .int 1]) : ACell), (.inr (.int, [.int 1, .int 1]) : ACell), (.inl (0, [.ref 3, .ref 4, .ref 0, .ref 5, .long w, .ref 6, .ref 7, .ref 8, .long (c).toInt64]) : ACell), (.inr (.long, [.long 0, .long 0, .long 0, .long 0, .long 0, .long 0, .long 0, .long 0, .long 0, .long 0, .long 0, .long 0, .long 0, .long 0, .long 0, .long 0]) : ACell), (.inr (.int, [.int 0, .int 0, .int 0, .int 0, .int 0, .int 0, .int 0, .int 0, .int 0, .int 0, .int 0, .int 0, .int 0, .int 0, .int 0, .int 0]) : ACell), (.inr (.int, [.int 1, .int 2]) : ACell), (.inr (.int, [.int 0, .int 1]) : ACell), (.inr (.long, [.long (c).toInt64, .long 9223372036854775807, .long 9223372036854775807]) : ACell), (.inr (.long, [.long 0, .long 0]) : ACell)] (Is (some (.long 9223372036854775807)) [(.inr (.int, [.int 0, .int 1]) : ACell), (.inr (.int, [.int 1, .int 1]) : ACell), (.inl (0, [.ref 3, .ref 4, .ref 0, .ref 5, .long w, .ref 6, .ref 7, .ref 8, .long (c).toInt64]) : ACell), (.inr (.long, [.long 0, .long 0, .long 0, .long 0, .long 0, .long 0, .long 0, .long 0, .long 0, .long 0, .long 0, .long 0, .long 0, .long 0, .long 0, .long 0]) : ACell), (.inr (.int, [.int 0, .int 0, .int 0, .int 0, .int 0, .int 0, .int 0, .int 0, .int 0, .int 0, .int 0, .int 0, .int 0, .int 0, .int 0, .int 0]) : ACell), (.inr (.int, [.int 1, .int 2]) : ACell), (.inr (.int, [.int 0, .int 1]) : ACell), (.inr (.long, [.long (c).toInt64, .long 9223372036854775807, .long 9223372036854775807]) : ACell), (.inr (.long, [.long 0, .long 0]) : ACell)]) := by
  refine e9 ?_
  refine s9_0 ?_
  refine s9_1 rfl ?_
  refine s9_4 ?_
  refine s9_5 rfl ?_
  refine s9_8 ?_
  refine s9_9 1 rfl (by decide) rfl ?_
  refine s9_10 ?_
  refine s9_11 ?_
  refine s9_12 1 rfl (by decide) rfl ?_
  exact s9_13 ⟨rfl, rfl⟩
theorem own_r15 (a b c pd : Int32) (w : Int64) : M9 ⟨0, 0, 0, 0⟩ [.ref 2, .int 1, .int 1] [(.inr (.int, [.int 0, .int 1]) : ACell), (.inr (.int, [.int 1, .int 1]) : ACell), (.inl (0, [.ref 3, .ref 4, .ref 0, .ref 5, .long w, .ref 6, .ref 7, .ref 8, .long (c).toInt64]) : ACell), (.inr (.long, [.long 0, .long 0, .long 0, .long 0, .long 0, .long 0, .long 0, .long 0, .long 0, .long 0, .long 0, .long 0, .long 0, .long 0, .long 0, .long 0]) : ACell), (.inr (.int, [.int 0, .int 0, .int 0, .int 0, .int 0, .int 0, .int 0, .int 0, .int 0, .int 0, .int 0, .int 0, .int 0, .int 0, .int 0, .int 0]) : ACell), (.inr (.int, [.int 1, .int 2]) : ACell), (.inr (.int, [.int 0, .int 1]) : ACell), (.inr (.long, [.long (c).toInt64, .long 9223372036854775807, .long 9223372036854775807]) : ACell), (.inr (.long, [.long 0, .long 0]) : ACell)] (Is (some (.long 9223372036854775807)) [(.inr (.int, [.int 0, .int 1]) : ACell), (.inr (.int, [.int 1, .int 1]) : ACell), (.inl (0, [.ref 3, .ref 4, .ref 0, .ref 5, .long w, .ref 6, .ref 7, .ref 8, .long (c).toInt64]) : ACell), (.inr (.long, [.long 0, .long 0, .long 0, .long 0, .long 0, .long 0, .long 0, .long 0, .long 0, .long 0, .long 0, .long 0, .long 0, .long 0, .long 0, .long 0]) : ACell), (.inr (.int, [.int 0, .int 0, .int 0, .int 0, .int 0, .int 0, .int 0, .int 0, .int 0, .int 0, .int 0, .int 0, .int 0, .int 0, .int 0, .int 0]) : ACell), (.inr (.int, [.int 1, .int 2]) : ACell), (.inr (.int, [.int 0, .int 1]) : ACell), (.inr (.long, [.long (c).toInt64, .long 9223372036854775807, .long 9223372036854775807]) : ACell), (.inr (.long, [.long 0, .long 0]) : ACell)]) := by
  refine e9 ?_
  refine s9_0 ?_
  refine s9_1 rfl ?_
  refine s9_4 ?_
  refine s9_5 rfl ?_
  refine s9_8 ?_
  refine s9_9 1 rfl (by decide) rfl ?_
  refine s9_10 ?_
  refine s9_11 ?_
  refine s9_12 2 rfl (by decide) rfl ?_
  exact s9_13 ⟨rfl, rfl⟩
theorem own_r16 (a b c pd : Int32) (w : Int64) (hc : w < c.toInt64 - pd.toInt64) : M7 ⟨0, 0, 0, 0⟩ [.ref 2, .int 1, .int pd] [(.inr (.int, [.int 0, .int 1]) : ACell), (.inr (.int, [.int 1, .int 1]) : ACell), (.inl (0, [.ref 3, .ref 4, .ref 0, .ref 5, .long w, .ref 6, .ref 7, .ref 8, .long (c).toInt64]) : ACell), (.inr (.long, [.long 0, .long 0, .long 0, .long 0, .long 0, .long 0, .long 0, .long 0, .long 0, .long 0, .long 0, .long 0, .long 0, .long 0, .long 0, .long 0]) : ACell), (.inr (.int, [.int 0, .int 0, .int 0, .int 0, .int 0, .int 0, .int 0, .int 0, .int 0, .int 0, .int 0, .int 0, .int 0, .int 0, .int 0, .int 0]) : ACell), (.inr (.int, [.int 1, .int 2]) : ACell), (.inr (.int, [.int 0, .int 1]) : ACell), (.inr (.long, [.long (c).toInt64, .long 9223372036854775807, .long 9223372036854775807]) : ACell), (.inr (.long, [.long 0, .long 0]) : ACell)] (Is (some (.int 0)) [(.inr (.int, [.int 0, .int 1]) : ACell), (.inr (.int, [.int 1, .int 1]) : ACell), (.inl (0, [.ref 3, .ref 4, .ref 0, .ref 5, .long w, .ref 6, .ref 7, .ref 8, .long (c).toInt64]) : ACell), (.inr (.long, [.long 0, .long 0, .long 0, .long 0, .long 0, .long 0, .long 0, .long 0, .long 0, .long 0, .long 0, .long 0, .long 0, .long 0, .long 0, .long 0]) : ACell), (.inr (.int, [.int 0, .int 0, .int 0, .int 0, .int 0, .int 0, .int 0, .int 0, .int 0, .int 0, .int 0, .int 0, .int 0, .int 0, .int 0, .int 0]) : ACell), (.inr (.int, [.int 1, .int 2]) : ACell), (.inr (.int, [.int 0, .int 1]) : ACell), (.inr (.long, [.long (c).toInt64, .long 9223372036854775807, .long 9223372036854775807]) : ACell), (.inr (.long, [.long 0, .long 0]) : ACell)]) := by
  refine e7 ?_
  refine s7_0 ?_
  refine s7_1 rfl ?_
  refine s7_2 ?_
  refine s7_3 rfl ?_
  refine s7_6 ?_
  refine s7_7 1 rfl (by decide) rfl ?_
  refine s7_8 rfl ?_
  refine s7_10 ?_
  refine s7_12 ?_
  refine s7_13 rfl ?_
  refine s7_16 ?_
  refine s7_17 1 rfl (by decide) rfl ?_
  refine s7_18 ?_
  refine s7_19 rfl ?_
  refine s7_22 ?_
  refine s7_23 1 rfl (by decide) rfl ?_
  refine s7_24 ?_
  refine s7_25 (fun h => absurd h (by decide)) (fun _ => ?_)
  refine s7_28 ?_
  refine s7_29 rfl ?_
  refine s7_32 ?_
  refine s7_34 1 rfl (by decide) rfl ?_
  refine s7_35 ?_
  refine s7_38c (fun _ => ?_) (fun h => absurd h (by decide))
  refine s7_70 ?_
  refine s7_71 ?_
  refine s7_72 rfl ?_
  refine s7_75 ?_
  refine s7_77 1 rfl (by decide) rfl ?_
  refine s7_78 ?_
  refine s7_81c (fun _ => ?_) (fun h => absurd h (by decide))
  refine s7_89 ?_
  refine s7_90 ?_
  refine s7_91 rfl ?_
  refine s7_92 ?_
  refine s7_95 ?_
  refine s7_10 ?_
  refine s7_12 ?_
  refine s7_13 rfl ?_
  refine s7_16 ?_
  refine s7_17 1 rfl (by decide) rfl ?_
  refine s7_18 ?_
  refine s7_19 rfl ?_
  refine s7_22 ?_
  refine s7_23 1 rfl (by decide) rfl ?_
  refine s7_24 ?_
  refine s7_25 (fun h => absurd h (by decide)) (fun _ => ?_)
  refine s7_28 ?_
  refine s7_29 rfl ?_
  refine s7_32 ?_
  refine s7_34 2 rfl (by decide) rfl ?_
  refine s7_35 ?_
  refine s7_38c (fun _ => ?_) (fun h => absurd h (by decide))
  refine s7_70 ?_
  refine s7_71 ?_
  refine s7_72 rfl ?_
  refine s7_75 ?_
  refine s7_77 2 rfl (by decide) rfl ?_
  refine s7_78 ?_
  refine s7_81c (fun _ => ?_) (fun h => absurd h (by decide))
  refine s7_89 ?_
  refine s7_90 ?_
  refine s7_91 rfl ?_
  refine s7_92 ?_
  refine s7_95 ?_
  refine s7_10 ?_
  refine s7_12 ?_
  refine s7_13 rfl ?_
  refine s7_16 ?_
  refine s7_17 1 rfl (by decide) rfl ?_
  refine s7_18 ?_
  refine s7_19 rfl ?_
  refine s7_22 ?_
  refine s7_23 1 rfl (by decide) rfl ?_
  refine s7_24 ?_
  refine s7_25 (fun _ => ?_) (fun h => absurd h (by decide))
  refine s7_98 ?_
  exact s7_99 ⟨rfl, rfl⟩
theorem own_r18 (a b c pd : Int32) (w : Int64) : M4 ⟨0, 0, 0, 0⟩ [.ref 2, .int b] [(.inr (.int, [.int 0, .int 1]) : ACell), (.inr (.int, [.int 1, .int 1]) : ACell), (.inl (0, [.ref 3, .ref 4, .ref 0, .ref 5, .long w, .ref 6, .ref 7, .ref 8, .long 0]) : ACell), (.inr (.long, [.long 0, .long 0, .long 0, .long 0, .long 0, .long 0, .long 0, .long 0, .long 0, .long 0, .long 0, .long 0, .long 0, .long 0, .long 0, .long 0]) : ACell), (.inr (.int, [.int 0, .int 0, .int 0, .int 0, .int 0, .int 0, .int 0, .int 0, .int 0, .int 0, .int 0, .int 0, .int 0, .int 0, .int 0, .int 0]) : ACell), (.inr (.int, [.int 1, .int 2]) : ACell), (.inr (.int, [.int 0, .int 1]) : ACell), (.inr (.long, [.long 9223372036854775807, .long 9223372036854775807, .long 9223372036854775807]) : ACell), (.inr (.long, [.long 0, .long 0]) : ACell)] (Is none [(.inr (.int, [.int 0, .int 1]) : ACell), (.inr (.int, [.int 1, .int 1]) : ACell), (.inl (0, [.ref 3, .ref 4, .ref 0, .ref 5, .long w, .ref 6, .ref 7, .ref 8, .long (b).toInt64]) : ACell), (.inr (.long, [.long 0, .long 0, .long 0, .long 0, .long 0, .long 0, .long 0, .long 0, .long 0, .long 0, .long 0, .long 0, .long 0, .long 0, .long 0, .long 0]) : ACell), (.inr (.int, [.int 0, .int 0, .int 0, .int 0, .int 0, .int 0, .int 0, .int 0, .int 0, .int 0, .int 0, .int 0, .int 0, .int 0, .int 0, .int 0]) : ACell), (.inr (.int, [.int 1, .int 2]) : ACell), (.inr (.int, [.int 0, .int 1]) : ACell), (.inr (.long, [.long 9223372036854775807, .long 9223372036854775807, .long 9223372036854775807]) : ACell), (.inr (.long, [.long 0, .long 0]) : ACell)]) := by
  refine e4 ?_
  refine s4_0 ?_
  refine s4_1 ?_
  refine s4_2 ?_
  refine s4_3 rfl ?_
  exact s4_6 ⟨rfl, rfl⟩
theorem own_r19 (a b c pd : Int32) (w : Int64) : M6 ⟨0, 0, 0, 0⟩ [.long 9223372036854775807, .long (b).toInt64] [(.inr (.int, [.int 0, .int 1]) : ACell), (.inr (.int, [.int 1, .int 1]) : ACell), (.inl (0, [.ref 3, .ref 4, .ref 0, .ref 5, .long w, .ref 6, .ref 7, .ref 8, .long (b).toInt64]) : ACell), (.inr (.long, [.long 0, .long 0, .long 0, .long 0, .long 0, .long 0, .long 0, .long 0, .long 0, .long 0, .long 0, .long 0, .long 0, .long 0, .long 0, .long 0]) : ACell), (.inr (.int, [.int 0, .int 0, .int 0, .int 0, .int 0, .int 0, .int 0, .int 0, .int 0, .int 0, .int 0, .int 0, .int 0, .int 0, .int 0, .int 0]) : ACell), (.inr (.int, [.int 1, .int 2]) : ACell), (.inr (.int, [.int 0, .int 1]) : ACell), (.inr (.long, [.long 9223372036854775807, .long 9223372036854775807, .long 9223372036854775807]) : ACell), (.inr (.long, [.long 0, .long 0]) : ACell)] (Is (some (.long (b).toInt64)) [(.inr (.int, [.int 0, .int 1]) : ACell), (.inr (.int, [.int 1, .int 1]) : ACell), (.inl (0, [.ref 3, .ref 4, .ref 0, .ref 5, .long w, .ref 6, .ref 7, .ref 8, .long (b).toInt64]) : ACell), (.inr (.long, [.long 0, .long 0, .long 0, .long 0, .long 0, .long 0, .long 0, .long 0, .long 0, .long 0, .long 0, .long 0, .long 0, .long 0, .long 0, .long 0]) : ACell), (.inr (.int, [.int 0, .int 0, .int 0, .int 0, .int 0, .int 0, .int 0, .int 0, .int 0, .int 0, .int 0, .int 0, .int 0, .int 0, .int 0, .int 0]) : ACell), (.inr (.int, [.int 1, .int 2]) : ACell), (.inr (.int, [.int 0, .int 1]) : ACell), (.inr (.long, [.long 9223372036854775807, .long 9223372036854775807, .long 9223372036854775807]) : ACell), (.inr (.long, [.long 0, .long 0]) : ACell)]) := by
  refine e6 ?_
  refine s6_0 ?_
  refine s6_1 ?_
  refine s6_2c (fun _ => ?_) (fun h => absurd (own_lt _) h)
  refine s6_10 ?_
  exact s6_11 ⟨rfl, rfl⟩
theorem own_r20 (a b c pd : Int32) (w : Int64) : M5 ⟨1, 0, 0, 17⟩ [.ref 2, .int 1, .int 1, .int (-1)] [(.inr (.int, [.int 0, .int 1]) : ACell), (.inr (.int, [.int 1, .int 1]) : ACell), (.inl (0, [.ref 3, .ref 4, .ref 0, .ref 5, .long w, .ref 6, .ref 7, .ref 8, .long (b).toInt64]) : ACell), (.inr (.long, [.long 0, .long 0, .long 0, .long 0, .long 0, .long 0, .long 0, .long 0, .long 0, .long 0, .long 0, .long 0, .long 0, .long 0, .long 0, .long 0]) : ACell), (.inr (.int, [.int 0, .int 0, .int 0, .int 0, .int 0, .int 0, .int 0, .int 0, .int 0, .int 0, .int 0, .int 0, .int 0, .int 0, .int 0, .int 0]) : ACell), (.inr (.int, [.int 1, .int 2]) : ACell), (.inr (.int, [.int 0, .int 1]) : ACell), (.inr (.long, [.long 9223372036854775807, .long 9223372036854775807, .long 9223372036854775807]) : ACell), (.inr (.long, [.long 0, .long 0]) : ACell)] (Is none [(.inr (.int, [.int 0, .int 1]) : ACell), (.inr (.int, [.int 1, .int 1]) : ACell), (.inl (0, [.ref 3, .ref 4, .ref 0, .ref 5, .long w, .ref 6, .ref 7, .ref 8, .long (b).toInt64]) : ACell), (.inr (.long, [.long 0, .long 0, .long 0, .long 0, .long 0, .long 0, .long 0, .long 0, .long 0, .long 0, .long 0, .long 0, .long 0, .long 0, .long 0, .long 0]) : ACell), (.inr (.int, [.int 0, .int 0, .int 0, .int 0, .int 0, .int 0, .int 0, .int 0, .int 0, .int 0, .int 0, .int 0, .int 0, .int 0, .int 0, .int 0]) : ACell), (.inr (.int, [.int 1, .int 2]) : ACell), (.inr (.int, [.int 0, .int 1]) : ACell), (.inr (.long, [.long 9223372036854775807, .long 9223372036854775807, .long (b).toInt64]) : ACell), (.inr (.long, [.long 0, .long 0]) : ACell)]) := by
  refine e5 ?_
  refine s5_0 ?_
  refine s5_1 rfl ?_
  refine s5_4 ?_
  refine s5_5 1 rfl (by decide) rfl ?_
  refine s5_6 ?_
  refine s5_7 ?_
  refine s5_8 rfl ?_
  refine s5_10 ?_
  refine s5_11 rfl ?_
  refine s5_14 ?_
  refine s5_16 ?_
  refine s5_17 rfl ?_
  refine s5_20 ?_
  refine s5_22 2 rfl (by decide) rfl ?_
  refine s5_23 ?_
  refine s5_24 ?_
  refine s5_25 (fun h => absurd h (by decide)) (fun _ => ?_)
  refine s5_28 ?_
  refine s5_29 rfl ?_
  refine s5_32 ?_
  refine s5_48 (own_r19 a b c pd w) rfl ?_
  refine s5_51 2 rfl (by decide) rfl ?_
  exact s5_52 ⟨rfl, rfl⟩
theorem own_r21 (a b c pd : Int32) (w : Int64) (hb : ¬ w < b.toInt64 - pd.toInt64) : M7 ⟨0, 0, 0, 0⟩ [.ref 2, .int 1, .int pd] [(.inr (.int, [.int 0, .int 1]) : ACell), (.inr (.int, [.int 1, .int 1]) : ACell), (.inl (0, [.ref 3, .ref 4, .ref 0, .ref 5, .long w, .ref 6, .ref 7, .ref 8, .long (b).toInt64]) : ACell), (.inr (.long, [.long 0, .long 0, .long 0, .long 0, .long 0, .long 0, .long 0, .long 0, .long 0, .long 0, .long 0, .long 0, .long 0, .long 0, .long 0, .long 0]) : ACell), (.inr (.int, [.int 0, .int 0, .int 0, .int 0, .int 0, .int 0, .int 0, .int 0, .int 0, .int 0, .int 0, .int 0, .int 0, .int 0, .int 0, .int 0]) : ACell), (.inr (.int, [.int 1, .int 2]) : ACell), (.inr (.int, [.int 0, .int 1]) : ACell), (.inr (.long, [.long 9223372036854775807, .long 9223372036854775807, .long (b).toInt64]) : ACell), (.inr (.long, [.long 0, .long 0]) : ACell)] (Is (some (.int 1)) [(.inr (.int, [.int 0, .int 1]) : ACell), (.inr (.int, [.int 1, .int 1]) : ACell), (.inl (0, [.ref 3, .ref 4, .ref 0, .ref 5, .long w, .ref 6, .ref 7, .ref 8, .long (b).toInt64]) : ACell), (.inr (.long, [.long 0, .long 0, .long 0, .long 0, .long 0, .long 0, .long 0, .long 0, .long 0, .long 0, .long 0, .long 0, .long 0, .long 0, .long 0, .long 0]) : ACell), (.inr (.int, [.int 0, .int 0, .int 0, .int 0, .int 0, .int 0, .int 0, .int 0, .int 0, .int 0, .int 0, .int 0, .int 0, .int 0, .int 0, .int 0]) : ACell), (.inr (.int, [.int 1, .int 2]) : ACell), (.inr (.int, [.int 0, .int 1]) : ACell), (.inr (.long, [.long 9223372036854775807, .long 9223372036854775807, .long (b).toInt64]) : ACell), (.inr (.long, [.long 0, .long 0]) : ACell)]) := by
  refine e7 ?_
  refine s7_0 ?_
  refine s7_1 rfl ?_
  refine s7_2 ?_
  refine s7_3 rfl ?_
  refine s7_6 ?_
  refine s7_7 1 rfl (by decide) rfl ?_
  refine s7_8 rfl ?_
  refine s7_10 ?_
  refine s7_12 ?_
  refine s7_13 rfl ?_
  refine s7_16 ?_
  refine s7_17 1 rfl (by decide) rfl ?_
  refine s7_18 ?_
  refine s7_19 rfl ?_
  refine s7_22 ?_
  refine s7_23 1 rfl (by decide) rfl ?_
  refine s7_24 ?_
  refine s7_25 (fun h => absurd h (by decide)) (fun _ => ?_)
  refine s7_28 ?_
  refine s7_29 rfl ?_
  refine s7_32 ?_
  refine s7_34 1 rfl (by decide) rfl ?_
  refine s7_35 ?_
  refine s7_38c (fun _ => ?_) (fun h => absurd h (by decide))
  refine s7_70 ?_
  refine s7_71 ?_
  refine s7_72 rfl ?_
  refine s7_75 ?_
  refine s7_77 1 rfl (by decide) rfl ?_
  refine s7_78 ?_
  refine s7_81c (fun _ => ?_) (fun h => absurd h (by decide))
  refine s7_89 ?_
  refine s7_90 ?_
  refine s7_91 rfl ?_
  refine s7_92 ?_
  refine s7_95 ?_
  refine s7_10 ?_
  refine s7_12 ?_
  refine s7_13 rfl ?_
  refine s7_16 ?_
  refine s7_17 1 rfl (by decide) rfl ?_
  refine s7_18 ?_
  refine s7_19 rfl ?_
  refine s7_22 ?_
  refine s7_23 1 rfl (by decide) rfl ?_
  refine s7_24 ?_
  refine s7_25 (fun h => absurd h (by decide)) (fun _ => ?_)
  refine s7_28 ?_
  refine s7_29 rfl ?_
  refine s7_32 ?_
  refine s7_34 2 rfl (by decide) rfl ?_
  refine s7_35 ?_
  refine s7_38c (fun h => absurd h (own_ne _)) (fun _ => ?_)
  refine s7_42 ?_
  refine s7_43 rfl ?_
  refine s7_46 ?_
  refine s7_48 2 rfl (by decide) rfl ?_
  refine s7_49 ?_
  refine s7_50 ?_
  refine s7_51 ?_
  refine s7_52 ?_
  refine s7_53 rfl ?_
  refine s7_56c (fun _ => ?_) (fun h => absurd h hb)
  refine s7_70 ?_
  refine s7_71 ?_
  refine s7_72 rfl ?_
  refine s7_75 ?_
  refine s7_77 2 rfl (by decide) rfl ?_
  refine s7_78 ?_
  refine s7_81c (fun h => absurd h (own_ne _)) (fun _ => ?_)
  refine s7_85 ?_
  refine s7_86 ?_
  refine s7_90 ?_
  refine s7_91 rfl ?_
  refine s7_92 ?_
  refine s7_95 ?_
  refine s7_10 ?_
  refine s7_12 ?_
  refine s7_13 rfl ?_
  refine s7_16 ?_
  refine s7_17 1 rfl (by decide) rfl ?_
  refine s7_18 ?_
  refine s7_19 rfl ?_
  refine s7_22 ?_
  refine s7_23 1 rfl (by decide) rfl ?_
  refine s7_24 ?_
  refine s7_25 (fun _ => ?_) (fun h => absurd h (by decide))
  refine s7_98 ?_
  exact s7_99 ⟨rfl, rfl⟩
theorem own_r23 (a b c pd : Int32) (w : Int64) : M9 ⟨0, 0, 0, 0⟩ [.ref 2, .int 0, .int 0] [(.inr (.int, [.int 0, .int 1]) : ACell), (.inr (.int, [.int 1, .int 1]) : ACell), (.inl (0, [.ref 3, .ref 4, .ref 0, .ref 5, .long w, .ref 6, .ref 7, .ref 8, .long (b).toInt64]) : ACell), (.inr (.long, [.long 0, .long 0, .long 0, .long 0, .long 0, .long 0, .long 0, .long 0, .long 0, .long 0, .long 0, .long 0, .long 0, .long 0, .long 0, .long 0]) : ACell), (.inr (.int, [.int 0, .int 0, .int 0, .int 0, .int 0, .int 0, .int 0, .int 0, .int 0, .int 0, .int 0, .int 0, .int 0, .int 0, .int 0, .int 0]) : ACell), (.inr (.int, [.int 1, .int 2]) : ACell), (.inr (.int, [.int 0, .int 1]) : ACell), (.inr (.long, [.long 9223372036854775807, .long 9223372036854775807, .long (b).toInt64]) : ACell), (.inr (.long, [.long 0, .long 0]) : ACell)] (Is (some (.long 9223372036854775807)) [(.inr (.int, [.int 0, .int 1]) : ACell), (.inr (.int, [.int 1, .int 1]) : ACell), (.inl (0, [.ref 3, .ref 4, .ref 0, .ref 5, .long w, .ref 6, .ref 7, .ref 8, .long (b).toInt64]) : ACell), (.inr (.long, [.long 0, .long 0, .long 0, .long 0, .long 0, .long 0, .long 0, .long 0, .long 0, .long 0, .long 0, .long 0, .long 0, .long 0, .long 0, .long 0]) : ACell), (.inr (.int, [.int 0, .int 0, .int 0, .int 0, .int 0, .int 0, .int 0, .int 0, .int 0, .int 0, .int 0, .int 0, .int 0, .int 0, .int 0, .int 0]) : ACell), (.inr (.int, [.int 1, .int 2]) : ACell), (.inr (.int, [.int 0, .int 1]) : ACell), (.inr (.long, [.long 9223372036854775807, .long 9223372036854775807, .long (b).toInt64]) : ACell), (.inr (.long, [.long 0, .long 0]) : ACell)]) := by
  refine e9 ?_
  refine s9_0 ?_
  refine s9_1 rfl ?_
  refine s9_4 ?_
  refine s9_5 rfl ?_
  refine s9_8 ?_
  refine s9_9 0 rfl (by decide) rfl ?_
  refine s9_10 ?_
  refine s9_11 ?_
  refine s9_12 0 rfl (by decide) rfl ?_
  exact s9_13 ⟨rfl, rfl⟩
theorem own_r24 (a b c pd : Int32) (w : Int64) : M9 ⟨0, 0, 0, 0⟩ [.ref 2, .int 1, .int 0] [(.inr (.int, [.int 0, .int 1]) : ACell), (.inr (.int, [.int 1, .int 1]) : ACell), (.inl (0, [.ref 3, .ref 4, .ref 0, .ref 5, .long w, .ref 6, .ref 7, .ref 8, .long (b).toInt64]) : ACell), (.inr (.long, [.long 0, .long 0, .long 0, .long 0, .long 0, .long 0, .long 0, .long 0, .long 0, .long 0, .long 0, .long 0, .long 0, .long 0, .long 0, .long 0]) : ACell), (.inr (.int, [.int 0, .int 0, .int 0, .int 0, .int 0, .int 0, .int 0, .int 0, .int 0, .int 0, .int 0, .int 0, .int 0, .int 0, .int 0, .int 0]) : ACell), (.inr (.int, [.int 1, .int 2]) : ACell), (.inr (.int, [.int 0, .int 1]) : ACell), (.inr (.long, [.long 9223372036854775807, .long 9223372036854775807, .long (b).toInt64]) : ACell), (.inr (.long, [.long 0, .long 0]) : ACell)] (Is (some (.long 9223372036854775807)) [(.inr (.int, [.int 0, .int 1]) : ACell), (.inr (.int, [.int 1, .int 1]) : ACell), (.inl (0, [.ref 3, .ref 4, .ref 0, .ref 5, .long w, .ref 6, .ref 7, .ref 8, .long (b).toInt64]) : ACell), (.inr (.long, [.long 0, .long 0, .long 0, .long 0, .long 0, .long 0, .long 0, .long 0, .long 0, .long 0, .long 0, .long 0, .long 0, .long 0, .long 0, .long 0]) : ACell), (.inr (.int, [.int 0, .int 0, .int 0, .int 0, .int 0, .int 0, .int 0, .int 0, .int 0, .int 0, .int 0, .int 0, .int 0, .int 0, .int 0, .int 0]) : ACell), (.inr (.int, [.int 1, .int 2]) : ACell), (.inr (.int, [.int 0, .int 1]) : ACell), (.inr (.long, [.long 9223372036854775807, .long 9223372036854775807, .long (b).toInt64]) : ACell), (.inr (.long, [.long 0, .long 0]) : ACell)]) := by
  refine e9 ?_
  refine s9_0 ?_
  refine s9_1 rfl ?_
  refine s9_4 ?_
  refine s9_5 rfl ?_
  refine s9_8 ?_
  refine s9_9 1 rfl (by decide) rfl ?_
  refine s9_10 ?_
  refine s9_11 ?_
  refine s9_12 1 rfl (by decide) rfl ?_
  exact s9_13 ⟨rfl, rfl⟩
theorem own_r25 (a b c pd : Int32) (w : Int64) : M9 ⟨0, 0, 0, 0⟩ [.ref 2, .int 1, .int 1] [(.inr (.int, [.int 0, .int 1]) : ACell), (.inr (.int, [.int 1, .int 1]) : ACell), (.inl (0, [.ref 3, .ref 4, .ref 0, .ref 5, .long w, .ref 6, .ref 7, .ref 8, .long (b).toInt64]) : ACell), (.inr (.long, [.long 0, .long 0, .long 0, .long 0, .long 0, .long 0, .long 0, .long 0, .long 0, .long 0, .long 0, .long 0, .long 0, .long 0, .long 0, .long 0]) : ACell), (.inr (.int, [.int 0, .int 0, .int 0, .int 0, .int 0, .int 0, .int 0, .int 0, .int 0, .int 0, .int 0, .int 0, .int 0, .int 0, .int 0, .int 0]) : ACell), (.inr (.int, [.int 1, .int 2]) : ACell), (.inr (.int, [.int 0, .int 1]) : ACell), (.inr (.long, [.long 9223372036854775807, .long 9223372036854775807, .long (b).toInt64]) : ACell), (.inr (.long, [.long 0, .long 0]) : ACell)] (Is (some (.long (b).toInt64)) [(.inr (.int, [.int 0, .int 1]) : ACell), (.inr (.int, [.int 1, .int 1]) : ACell), (.inl (0, [.ref 3, .ref 4, .ref 0, .ref 5, .long w, .ref 6, .ref 7, .ref 8, .long (b).toInt64]) : ACell), (.inr (.long, [.long 0, .long 0, .long 0, .long 0, .long 0, .long 0, .long 0, .long 0, .long 0, .long 0, .long 0, .long 0, .long 0, .long 0, .long 0, .long 0]) : ACell), (.inr (.int, [.int 0, .int 0, .int 0, .int 0, .int 0, .int 0, .int 0, .int 0, .int 0, .int 0, .int 0, .int 0, .int 0, .int 0, .int 0, .int 0]) : ACell), (.inr (.int, [.int 1, .int 2]) : ACell), (.inr (.int, [.int 0, .int 1]) : ACell), (.inr (.long, [.long 9223372036854775807, .long 9223372036854775807, .long (b).toInt64]) : ACell), (.inr (.long, [.long 0, .long 0]) : ACell)]) := by
  refine e9 ?_
  refine s9_0 ?_
  refine s9_1 rfl ?_
  refine s9_4 ?_
  refine s9_5 rfl ?_
  refine s9_8 ?_
  refine s9_9 1 rfl (by decide) rfl ?_
  refine s9_10 ?_
  refine s9_11 ?_
  refine s9_12 2 rfl (by decide) rfl ?_
  exact s9_13 ⟨rfl, rfl⟩
theorem own_r26 (a b c pd : Int32) (w : Int64) : M4 ⟨0, 0, 0, 0⟩ [.ref 2, .int b] [(.inr (.int, [.int 0, .int 1]) : ACell), (.inr (.int, [.int 1, .int 1]) : ACell), (.inl (0, [.ref 3, .ref 4, .ref 0, .ref 5, .long w, .ref 6, .ref 7, .ref 8, .long (c).toInt64]) : ACell), (.inr (.long, [.long 0, .long 0, .long 0, .long 0, .long 0, .long 0, .long 0, .long 0, .long 0, .long 0, .long 0, .long 0, .long 0, .long 0, .long 0, .long 0]) : ACell), (.inr (.int, [.int 0, .int 0, .int 0, .int 0, .int 0, .int 0, .int 0, .int 0, .int 0, .int 0, .int 0, .int 0, .int 0, .int 0, .int 0, .int 0]) : ACell), (.inr (.int, [.int 1, .int 2]) : ACell), (.inr (.int, [.int 0, .int 1]) : ACell), (.inr (.long, [.long (c).toInt64, .long 9223372036854775807, .long 9223372036854775807]) : ACell), (.inr (.long, [.long 0, .long 0]) : ACell)] (Is none [(.inr (.int, [.int 0, .int 1]) : ACell), (.inr (.int, [.int 1, .int 1]) : ACell), (.inl (0, [.ref 3, .ref 4, .ref 0, .ref 5, .long w, .ref 6, .ref 7, .ref 8, .long (b).toInt64]) : ACell), (.inr (.long, [.long 0, .long 0, .long 0, .long 0, .long 0, .long 0, .long 0, .long 0, .long 0, .long 0, .long 0, .long 0, .long 0, .long 0, .long 0, .long 0]) : ACell), (.inr (.int, [.int 0, .int 0, .int 0, .int 0, .int 0, .int 0, .int 0, .int 0, .int 0, .int 0, .int 0, .int 0, .int 0, .int 0, .int 0, .int 0]) : ACell), (.inr (.int, [.int 1, .int 2]) : ACell), (.inr (.int, [.int 0, .int 1]) : ACell), (.inr (.long, [.long (c).toInt64, .long 9223372036854775807, .long 9223372036854775807]) : ACell), (.inr (.long, [.long 0, .long 0]) : ACell)]) := by
  refine e4 ?_
  refine s4_0 ?_
  refine s4_1 ?_
  refine s4_2 ?_
  refine s4_3 rfl ?_
  exact s4_6 ⟨rfl, rfl⟩
theorem own_r27 (a b c pd : Int32) (w : Int64) : M6 ⟨0, 0, 0, 0⟩ [.long 9223372036854775807, .long (b).toInt64] [(.inr (.int, [.int 0, .int 1]) : ACell), (.inr (.int, [.int 1, .int 1]) : ACell), (.inl (0, [.ref 3, .ref 4, .ref 0, .ref 5, .long w, .ref 6, .ref 7, .ref 8, .long (b).toInt64]) : ACell), (.inr (.long, [.long 0, .long 0, .long 0, .long 0, .long 0, .long 0, .long 0, .long 0, .long 0, .long 0, .long 0, .long 0, .long 0, .long 0, .long 0, .long 0]) : ACell), (.inr (.int, [.int 0, .int 0, .int 0, .int 0, .int 0, .int 0, .int 0, .int 0, .int 0, .int 0, .int 0, .int 0, .int 0, .int 0, .int 0, .int 0]) : ACell), (.inr (.int, [.int 1, .int 2]) : ACell), (.inr (.int, [.int 0, .int 1]) : ACell), (.inr (.long, [.long (c).toInt64, .long 9223372036854775807, .long 9223372036854775807]) : ACell), (.inr (.long, [.long 0, .long 0]) : ACell)] (Is (some (.long (b).toInt64)) [(.inr (.int, [.int 0, .int 1]) : ACell), (.inr (.int, [.int 1, .int 1]) : ACell), (.inl (0, [.ref 3, .ref 4, .ref 0, .ref 5, .long w, .ref 6, .ref 7, .ref 8, .long (b).toInt64]) : ACell), (.inr (.long, [.long 0, .long 0, .long 0, .long 0, .long 0, .long 0, .long 0, .long 0, .long 0, .long 0, .long 0, .long 0, .long 0, .long 0, .long 0, .long 0]) : ACell), (.inr (.int, [.int 0, .int 0, .int 0, .int 0, .int 0, .int 0, .int 0, .int 0, .int 0, .int 0, .int 0, .int 0, .int 0, .int 0, .int 0, .int 0]) : ACell), (.inr (.int, [.int 1, .int 2]) : ACell), (.inr (.int, [.int 0, .int 1]) : ACell), (.inr (.long, [.long (c).toInt64, .long 9223372036854775807, .long 9223372036854775807]) : ACell), (.inr (.long, [.long 0, .long 0]) : ACell)]) := by
  refine e6 ?_
  refine s6_0 ?_
  refine s6_1 ?_
  refine s6_2c (fun _ => ?_) (fun h => absurd (own_lt _) h)
  refine s6_10 ?_
  exact s6_11 ⟨rfl, rfl⟩
theorem own_r28 (a b c pd : Int32) (w : Int64) : M5 ⟨1, 0, 0, 17⟩ [.ref 2, .int 1, .int 1, .int (-1)] [(.inr (.int, [.int 0, .int 1]) : ACell), (.inr (.int, [.int 1, .int 1]) : ACell), (.inl (0, [.ref 3, .ref 4, .ref 0, .ref 5, .long w, .ref 6, .ref 7, .ref 8, .long (b).toInt64]) : ACell), (.inr (.long, [.long 0, .long 0, .long 0, .long 0, .long 0, .long 0, .long 0, .long 0, .long 0, .long 0, .long 0, .long 0, .long 0, .long 0, .long 0, .long 0]) : ACell), (.inr (.int, [.int 0, .int 0, .int 0, .int 0, .int 0, .int 0, .int 0, .int 0, .int 0, .int 0, .int 0, .int 0, .int 0, .int 0, .int 0, .int 0]) : ACell), (.inr (.int, [.int 1, .int 2]) : ACell), (.inr (.int, [.int 0, .int 1]) : ACell), (.inr (.long, [.long (c).toInt64, .long 9223372036854775807, .long 9223372036854775807]) : ACell), (.inr (.long, [.long 0, .long 0]) : ACell)] (Is none [(.inr (.int, [.int 0, .int 1]) : ACell), (.inr (.int, [.int 1, .int 1]) : ACell), (.inl (0, [.ref 3, .ref 4, .ref 0, .ref 5, .long w, .ref 6, .ref 7, .ref 8, .long (b).toInt64]) : ACell), (.inr (.long, [.long 0, .long 0, .long 0, .long 0, .long 0, .long 0, .long 0, .long 0, .long 0, .long 0, .long 0, .long 0, .long 0, .long 0, .long 0, .long 0]) : ACell), (.inr (.int, [.int 0, .int 0, .int 0, .int 0, .int 0, .int 0, .int 0, .int 0, .int 0, .int 0, .int 0, .int 0, .int 0, .int 0, .int 0, .int 0]) : ACell), (.inr (.int, [.int 1, .int 2]) : ACell), (.inr (.int, [.int 0, .int 1]) : ACell), (.inr (.long, [.long (c).toInt64, .long 9223372036854775807, .long (b).toInt64]) : ACell), (.inr (.long, [.long 0, .long 0]) : ACell)]) := by
  refine e5 ?_
  refine s5_0 ?_
  refine s5_1 rfl ?_
  refine s5_4 ?_
  refine s5_5 1 rfl (by decide) rfl ?_
  refine s5_6 ?_
  refine s5_7 ?_
  refine s5_8 rfl ?_
  refine s5_10 ?_
  refine s5_11 rfl ?_
  refine s5_14 ?_
  refine s5_16 ?_
  refine s5_17 rfl ?_
  refine s5_20 ?_
  refine s5_22 2 rfl (by decide) rfl ?_
  refine s5_23 ?_
  refine s5_24 ?_
  refine s5_25 (fun h => absurd h (by decide)) (fun _ => ?_)
  refine s5_28 ?_
  refine s5_29 rfl ?_
  refine s5_32 ?_
  refine s5_48 (own_r27 a b c pd w) rfl ?_
  refine s5_51 2 rfl (by decide) rfl ?_
  exact s5_52 ⟨rfl, rfl⟩
theorem own_r29 (a b c pd : Int32) (w : Int64) (hb : ¬ w < b.toInt64 - pd.toInt64) (hc : ¬ w < c.toInt64 - pd.toInt64) : M7 ⟨0, 0, 0, 0⟩ [.ref 2, .int 1, .int pd] [(.inr (.int, [.int 0, .int 1]) : ACell), (.inr (.int, [.int 1, .int 1]) : ACell), (.inl (0, [.ref 3, .ref 4, .ref 0, .ref 5, .long w, .ref 6, .ref 7, .ref 8, .long (b).toInt64]) : ACell), (.inr (.long, [.long 0, .long 0, .long 0, .long 0, .long 0, .long 0, .long 0, .long 0, .long 0, .long 0, .long 0, .long 0, .long 0, .long 0, .long 0, .long 0]) : ACell), (.inr (.int, [.int 0, .int 0, .int 0, .int 0, .int 0, .int 0, .int 0, .int 0, .int 0, .int 0, .int 0, .int 0, .int 0, .int 0, .int 0, .int 0]) : ACell), (.inr (.int, [.int 1, .int 2]) : ACell), (.inr (.int, [.int 0, .int 1]) : ACell), (.inr (.long, [.long (c).toInt64, .long 9223372036854775807, .long (b).toInt64]) : ACell), (.inr (.long, [.long 0, .long 0]) : ACell)] (Is (some (.int 1)) [(.inr (.int, [.int 0, .int 1]) : ACell), (.inr (.int, [.int 1, .int 1]) : ACell), (.inl (0, [.ref 3, .ref 4, .ref 0, .ref 5, .long w, .ref 6, .ref 7, .ref 8, .long (b).toInt64]) : ACell), (.inr (.long, [.long 0, .long 0, .long 0, .long 0, .long 0, .long 0, .long 0, .long 0, .long 0, .long 0, .long 0, .long 0, .long 0, .long 0, .long 0, .long 0]) : ACell), (.inr (.int, [.int 0, .int 0, .int 0, .int 0, .int 0, .int 0, .int 0, .int 0, .int 0, .int 0, .int 0, .int 0, .int 0, .int 0, .int 0, .int 0]) : ACell), (.inr (.int, [.int 1, .int 2]) : ACell), (.inr (.int, [.int 0, .int 1]) : ACell), (.inr (.long, [.long (c).toInt64, .long 9223372036854775807, .long (b).toInt64]) : ACell), (.inr (.long, [.long 0, .long 0]) : ACell)]) := by
  refine e7 ?_
  refine s7_0 ?_
  refine s7_1 rfl ?_
  refine s7_2 ?_
  refine s7_3 rfl ?_
  refine s7_6 ?_
  refine s7_7 1 rfl (by decide) rfl ?_
  refine s7_8 rfl ?_
  refine s7_10 ?_
  refine s7_12 ?_
  refine s7_13 rfl ?_
  refine s7_16 ?_
  refine s7_17 1 rfl (by decide) rfl ?_
  refine s7_18 ?_
  refine s7_19 rfl ?_
  refine s7_22 ?_
  refine s7_23 1 rfl (by decide) rfl ?_
  refine s7_24 ?_
  refine s7_25 (fun h => absurd h (by decide)) (fun _ => ?_)
  refine s7_28 ?_
  refine s7_29 rfl ?_
  refine s7_32 ?_
  refine s7_34 1 rfl (by decide) rfl ?_
  refine s7_35 ?_
  refine s7_38c (fun _ => ?_) (fun h => absurd h (by decide))
  refine s7_70 ?_
  refine s7_71 ?_
  refine s7_72 rfl ?_
  refine s7_75 ?_
  refine s7_77 1 rfl (by decide) rfl ?_
  refine s7_78 ?_
  refine s7_81c (fun _ => ?_) (fun h => absurd h (by decide))
  refine s7_89 ?_
  refine s7_90 ?_
  refine s7_91 rfl ?_
  refine s7_92 ?_
  refine s7_95 ?_
  refine s7_10 ?_
  refine s7_12 ?_
  refine s7_13 rfl ?_
  refine s7_16 ?_
  refine s7_17 1 rfl (by decide) rfl ?_
  refine s7_18 ?_
  refine s7_19 rfl ?_
  refine s7_22 ?_
  refine s7_23 1 rfl (by decide) rfl ?_
  refine s7_24 ?_
  refine s7_25 (fun h => absurd h (by decide)) (fun _ => ?_)
  refine s7_28 ?_
  refine s7_29 rfl ?_
  refine s7_32 ?_
  refine s7_34 2 rfl (by decide) rfl ?_
  refine s7_35 ?_
  refine s7_38c (fun h => absurd h (own_ne _)) (fun _ => ?_)
  refine s7_42 ?_
  refine s7_43 rfl ?_
  refine s7_46 ?_
  refine s7_48 2 rfl (by decide) rfl ?_
  refine s7_49 ?_
  refine s7_50 ?_
  refine s7_51 ?_
  refine s7_52 ?_
  refine s7_53 rfl ?_
  refine s7_56c (fun _ => ?_) (fun h => absurd h hb)
  refine s7_70 ?_
  refine s7_71 ?_
  refine s7_72 rfl ?_
  refine s7_75 ?_
  refine s7_77 2 rfl (by decide) rfl ?_
  refine s7_78 ?_
  refine s7_81c (fun h => absurd h (own_ne _)) (fun _ => ?_)
  refine s7_85 ?_
  refine s7_86 ?_
  refine s7_90 ?_
  refine s7_91 rfl ?_
  refine s7_92 ?_
  refine s7_95 ?_
  refine s7_10 ?_
  refine s7_12 ?_
  refine s7_13 rfl ?_
  refine s7_16 ?_
  refine s7_17 1 rfl (by decide) rfl ?_
  refine s7_18 ?_
  refine s7_19 rfl ?_
  refine s7_22 ?_
  refine s7_23 1 rfl (by decide) rfl ?_
  refine s7_24 ?_
  refine s7_25 (fun _ => ?_) (fun h => absurd h (by decide))
  refine s7_98 ?_
  exact s7_99 ⟨rfl, rfl⟩
theorem own_r31 (a b c pd : Int32) (w : Int64) : M9 ⟨0, 0, 0, 0⟩ [.ref 2, .int 0, .int 0] [(.inr (.int, [.int 0, .int 1]) : ACell), (.inr (.int, [.int 1, .int 1]) : ACell), (.inl (0, [.ref 3, .ref 4, .ref 0, .ref 5, .long w, .ref 6, .ref 7, .ref 8, .long (b).toInt64]) : ACell), (.inr (.long, [.long 0, .long 0, .long 0, .long 0, .long 0, .long 0, .long 0, .long 0, .long 0, .long 0, .long 0, .long 0, .long 0, .long 0, .long 0, .long 0]) : ACell), (.inr (.int, [.int 0, .int 0, .int 0, .int 0, .int 0, .int 0, .int 0, .int 0, .int 0, .int 0, .int 0, .int 0, .int 0, .int 0, .int 0, .int 0]) : ACell), (.inr (.int, [.int 1, .int 2]) : ACell), (.inr (.int, [.int 0, .int 1]) : ACell), (.inr (.long, [.long (c).toInt64, .long 9223372036854775807, .long (b).toInt64]) : ACell), (.inr (.long, [.long 0, .long 0]) : ACell)] (Is (some (.long (c).toInt64)) [(.inr (.int, [.int 0, .int 1]) : ACell), (.inr (.int, [.int 1, .int 1]) : ACell), (.inl (0, [.ref 3, .ref 4, .ref 0, .ref 5, .long w, .ref 6, .ref 7, .ref 8, .long (b).toInt64]) : ACell), (.inr (.long, [.long 0, .long 0, .long 0, .long 0, .long 0, .long 0, .long 0, .long 0, .long 0, .long 0, .long 0, .long 0, .long 0, .long 0, .long 0, .long 0]) : ACell), (.inr (.int, [.int 0, .int 0, .int 0, .int 0, .int 0, .int 0, .int 0, .int 0, .int 0, .int 0, .int 0, .int 0, .int 0, .int 0, .int 0, .int 0]) : ACell), (.inr (.int, [.int 1, .int 2]) : ACell), (.inr (.int, [.int 0, .int 1]) : ACell), (.inr (.long, [.long (c).toInt64, .long 9223372036854775807, .long (b).toInt64]) : ACell), (.inr (.long, [.long 0, .long 0]) : ACell)]) := by
  refine e9 ?_
  refine s9_0 ?_
  refine s9_1 rfl ?_
  refine s9_4 ?_
  refine s9_5 rfl ?_
  refine s9_8 ?_
  refine s9_9 0 rfl (by decide) rfl ?_
  refine s9_10 ?_
  refine s9_11 ?_
  refine s9_12 0 rfl (by decide) rfl ?_
  exact s9_13 ⟨rfl, rfl⟩
theorem own_r32 (a b c pd : Int32) (w : Int64) : M9 ⟨0, 0, 0, 0⟩ [.ref 2, .int 1, .int 0] [(.inr (.int, [.int 0, .int 1]) : ACell), (.inr (.int, [.int 1, .int 1]) : ACell), (.inl (0, [.ref 3, .ref 4, .ref 0, .ref 5, .long w, .ref 6, .ref 7, .ref 8, .long (b).toInt64]) : ACell), (.inr (.long, [.long 0, .long 0, .long 0, .long 0, .long 0, .long 0, .long 0, .long 0, .long 0, .long 0, .long 0, .long 0, .long 0, .long 0, .long 0, .long 0]) : ACell), (.inr (.int, [.int 0, .int 0, .int 0, .int 0, .int 0, .int 0, .int 0, .int 0, .int 0, .int 0, .int 0, .int 0, .int 0, .int 0, .int 0, .int 0]) : ACell), (.inr (.int, [.int 1, .int 2]) : ACell), (.inr (.int, [.int 0, .int 1]) : ACell), (.inr (.long, [.long (c).toInt64, .long 9223372036854775807, .long (b).toInt64]) : ACell), (.inr (.long, [.long 0, .long 0]) : ACell)] (Is (some (.long 9223372036854775807)) [(.inr (.int, [.int 0, .int 1]) : ACell), (.inr (.int, [.int 1, .int 1]) : ACell), (.inl (0, [.ref 3, .ref 4, .ref 0, .ref 5, .long w, .ref 6, .ref 7, .ref 8, .long (b).toInt64]) : ACell), (.inr (.long, [.long 0, .long 0, .long 0, .long 0, .long 0, .long 0, .long 0, .long 0, .long 0, .long 0, .long 0, .long 0, .long 0, .long 0, .long 0, .long 0]) : ACell), (.inr (.int, [.int 0, .int 0, .int 0, .int 0, .int 0, .int 0, .int 0, .int 0, .int 0, .int 0, .int 0, .int 0, .int 0, .int 0, .int 0, .int 0]) : ACell), (.inr (.int, [.int 1, .int 2]) : ACell), (.inr (.int, [.int 0, .int 1]) : ACell), (.inr (.long, [.long (c).toInt64, .long 9223372036854775807, .long (b).toInt64]) : ACell), (.inr (.long, [.long 0, .long 0]) : ACell)]) := by
  refine e9 ?_
  refine s9_0 ?_
  refine s9_1 rfl ?_
  refine s9_4 ?_
  refine s9_5 rfl ?_
  refine s9_8 ?_
  refine s9_9 1 rfl (by decide) rfl ?_
  refine s9_10 ?_
  refine s9_11 ?_
  refine s9_12 1 rfl (by decide) rfl ?_
  exact s9_13 ⟨rfl, rfl⟩
theorem own_r33 (a b c pd : Int32) (w : Int64) : M9 ⟨0, 0, 0, 0⟩ [.ref 2, .int 1, .int 1] [(.inr (.int, [.int 0, .int 1]) : ACell), (.inr (.int, [.int 1, .int 1]) : ACell), (.inl (0, [.ref 3, .ref 4, .ref 0, .ref 5, .long w, .ref 6, .ref 7, .ref 8, .long (b).toInt64]) : ACell), (.inr (.long, [.long 0, .long 0, .long 0, .long 0, .long 0, .long 0, .long 0, .long 0, .long 0, .long 0, .long 0, .long 0, .long 0, .long 0, .long 0, .long 0]) : ACell), (.inr (.int, [.int 0, .int 0, .int 0, .int 0, .int 0, .int 0, .int 0, .int 0, .int 0, .int 0, .int 0, .int 0, .int 0, .int 0, .int 0, .int 0]) : ACell), (.inr (.int, [.int 1, .int 2]) : ACell), (.inr (.int, [.int 0, .int 1]) : ACell), (.inr (.long, [.long (c).toInt64, .long 9223372036854775807, .long (b).toInt64]) : ACell), (.inr (.long, [.long 0, .long 0]) : ACell)] (Is (some (.long (b).toInt64)) [(.inr (.int, [.int 0, .int 1]) : ACell), (.inr (.int, [.int 1, .int 1]) : ACell), (.inl (0, [.ref 3, .ref 4, .ref 0, .ref 5, .long w, .ref 6, .ref 7, .ref 8, .long (b).toInt64]) : ACell), (.inr (.long, [.long 0, .long 0, .long 0, .long 0, .long 0, .long 0, .long 0, .long 0, .long 0, .long 0, .long 0, .long 0, .long 0, .long 0, .long 0, .long 0]) : ACell), (.inr (.int, [.int 0, .int 0, .int 0, .int 0, .int 0, .int 0, .int 0, .int 0, .int 0, .int 0, .int 0, .int 0, .int 0, .int 0, .int 0, .int 0]) : ACell), (.inr (.int, [.int 1, .int 2]) : ACell), (.inr (.int, [.int 0, .int 1]) : ACell), (.inr (.long, [.long (c).toInt64, .long 9223372036854775807, .long (b).toInt64]) : ACell), (.inr (.long, [.long 0, .long 0]) : ACell)]) := by
  refine e9 ?_
  refine s9_0 ?_
  refine s9_1 rfl ?_
  refine s9_4 ?_
  refine s9_5 rfl ?_
  refine s9_8 ?_
  refine s9_9 1 rfl (by decide) rfl ?_
  refine s9_10 ?_
  refine s9_11 ?_
  refine s9_12 2 rfl (by decide) rfl ?_
  exact s9_13 ⟨rfl, rfl⟩
theorem own_r34 (a b c pd : Int32) (w : Int64) (hb : ¬ w < b.toInt64 - pd.toInt64) (hc : w < c.toInt64 - pd.toInt64) : M7 ⟨0, 0, 0, 0⟩ [.ref 2, .int 1, .int pd] [(.inr (.int, [.int 0, .int 1]) : ACell), (.inr (.int, [.int 1, .int 1]) : ACell), (.inl (0, [.ref 3, .ref 4, .ref 0, .ref 5, .long w, .ref 6, .ref 7, .ref 8, .long (b).toInt64]) : ACell), (.inr (.long, [.long 0, .long 0, .long 0, .long 0, .long 0, .long 0, .long 0, .long 0, .long 0, .long 0, .long 0, .long 0, .long 0, .long 0, .long 0, .long 0]) : ACell), (.inr (.int, [.int 0, .int 0, .int 0, .int 0, .int 0, .int 0, .int 0, .int 0, .int 0, .int 0, .int 0, .int 0, .int 0, .int 0, .int 0, .int 0]) : ACell), (.inr (.int, [.int 1, .int 2]) : ACell), (.inr (.int, [.int 0, .int 1]) : ACell), (.inr (.long, [.long (c).toInt64, .long 9223372036854775807, .long (b).toInt64]) : ACell), (.inr (.long, [.long 0, .long 0]) : ACell)] (Is (some (.int 1)) [(.inr (.int, [.int 0, .int 1]) : ACell), (.inr (.int, [.int 1, .int 1]) : ACell), (.inl (0, [.ref 3, .ref 4, .ref 0, .ref 5, .long w, .ref 6, .ref 7, .ref 8, .long (b).toInt64]) : ACell), (.inr (.long, [.long 0, .long 0, .long 0, .long 0, .long 0, .long 0, .long 0, .long 0, .long 0, .long 0, .long 0, .long 0, .long 0, .long 0, .long 0, .long 0]) : ACell), (.inr (.int, [.int 0, .int 0, .int 0, .int 0, .int 0, .int 0, .int 0, .int 0, .int 0, .int 0, .int 0, .int 0, .int 0, .int 0, .int 0, .int 0]) : ACell), (.inr (.int, [.int 1, .int 2]) : ACell), (.inr (.int, [.int 0, .int 1]) : ACell), (.inr (.long, [.long (c).toInt64, .long 9223372036854775807, .long (b).toInt64]) : ACell), (.inr (.long, [.long 0, .long 0]) : ACell)]) := by
  refine e7 ?_
  refine s7_0 ?_
  refine s7_1 rfl ?_
  refine s7_2 ?_
  refine s7_3 rfl ?_
  refine s7_6 ?_
  refine s7_7 1 rfl (by decide) rfl ?_
  refine s7_8 rfl ?_
  refine s7_10 ?_
  refine s7_12 ?_
  refine s7_13 rfl ?_
  refine s7_16 ?_
  refine s7_17 1 rfl (by decide) rfl ?_
  refine s7_18 ?_
  refine s7_19 rfl ?_
  refine s7_22 ?_
  refine s7_23 1 rfl (by decide) rfl ?_
  refine s7_24 ?_
  refine s7_25 (fun h => absurd h (by decide)) (fun _ => ?_)
  refine s7_28 ?_
  refine s7_29 rfl ?_
  refine s7_32 ?_
  refine s7_34 1 rfl (by decide) rfl ?_
  refine s7_35 ?_
  refine s7_38c (fun _ => ?_) (fun h => absurd h (by decide))
  refine s7_70 ?_
  refine s7_71 ?_
  refine s7_72 rfl ?_
  refine s7_75 ?_
  refine s7_77 1 rfl (by decide) rfl ?_
  refine s7_78 ?_
  refine s7_81c (fun _ => ?_) (fun h => absurd h (by decide))
  refine s7_89 ?_
  refine s7_90 ?_
  refine s7_91 rfl ?_
  refine s7_92 ?_
  refine s7_95 ?_
  refine s7_10 ?_
  refine s7_12 ?_
  refine s7_13 rfl ?_
  refine s7_16 ?_
  refine s7_17 1 rfl (by decide) rfl ?_
  refine s7_18 ?_
  refine s7_19 rfl ?_
  refine s7_22 ?_
  refine s7_23 1 rfl (by decide) rfl ?_
  refine s7_24 ?_
  refine s7_25 (fun h => absurd h (by decide)) (fun _ => ?_)
  refine s7_28 ?_
  refine s7_29 rfl ?_
  refine s7_32 ?_
  refine s7_34 2 rfl (by decide) rfl ?_
  refine s7_35 ?_
  refine s7_38c (fun h => absurd h (own_ne _)) (fun _ => ?_)
  refine s7_42 ?_
  refine s7_43 rfl ?_
  refine s7_46 ?_
  refine s7_48 2 rfl (by decide) rfl ?_
  refine s7_49 ?_
  refine s7_50 ?_
  refine s7_51 ?_
  refine s7_52 ?_
  refine s7_53 rfl ?_
  refine s7_56c (fun _ => ?_) (fun h => absurd h hb)
  refine s7_70 ?_
  refine s7_71 ?_
  refine s7_72 rfl ?_
  refine s7_75 ?_
  refine s7_77 2 rfl (by decide) rfl ?_
  refine s7_78 ?_
  refine s7_81c (fun h => absurd h (own_ne _)) (fun _ => ?_)
  refine s7_85 ?_
  refine s7_86 ?_
  refine s7_90 ?_
  refine s7_91 rfl ?_
  refine s7_92 ?_
  refine s7_95 ?_
  refine s7_10 ?_
  refine s7_12 ?_
  refine s7_13 rfl ?_
  refine s7_16 ?_
  refine s7_17 1 rfl (by decide) rfl ?_
  refine s7_18 ?_
  refine s7_19 rfl ?_
  refine s7_22 ?_
  refine s7_23 1 rfl (by decide) rfl ?_
  refine s7_24 ?_
  refine s7_25 (fun _ => ?_) (fun h => absurd h (by decide))
  refine s7_98 ?_
  exact s7_99 ⟨rfl, rfl⟩
theorem own_r36 (a b c pd : Int32) (w : Int64) (hb : w < b.toInt64 - pd.toInt64) : M7 ⟨0, 0, 0, 0⟩ [.ref 2, .int 1, .int pd] [(.inr (.int, [.int 0, .int 1]) : ACell), (.inr (.int, [.int 1, .int 1]) : ACell), (.inl (0, [.ref 3, .ref 4, .ref 0, .ref 5, .long w, .ref 6, .ref 7, .ref 8, .long (b).toInt64]) : ACell), (.inr (.long, [.long 0, .long 0, .long 0, .long 0, .long 0, .long 0, .long 0, .long 0, .long 0, .long 0, .long 0, .long 0, .long 0, .long 0, .long 0, .long 0]) : ACell), (.inr (.int, [.int 0, .int 0, .int 0, .int 0, .int 0, .int 0, .int 0, .int 0, .int 0, .int 0, .int 0, .int 0, .int 0, .int 0, .int 0, .int 0]) : ACell), (.inr (.int, [.int 1, .int 2]) : ACell), (.inr (.int, [.int 0, .int 1]) : ACell), (.inr (.long, [.long 9223372036854775807, .long 9223372036854775807, .long (b).toInt64]) : ACell), (.inr (.long, [.long 0, .long 0]) : ACell)] (Is (some (.int 0)) [(.inr (.int, [.int 0, .int 1]) : ACell), (.inr (.int, [.int 1, .int 1]) : ACell), (.inl (0, [.ref 3, .ref 4, .ref 0, .ref 5, .long w, .ref 6, .ref 7, .ref 8, .long (b).toInt64]) : ACell), (.inr (.long, [.long 0, .long 0, .long 0, .long 0, .long 0, .long 0, .long 0, .long 0, .long 0, .long 0, .long 0, .long 0, .long 0, .long 0, .long 0, .long 0]) : ACell), (.inr (.int, [.int 0, .int 0, .int 0, .int 0, .int 0, .int 0, .int 0, .int 0, .int 0, .int 0, .int 0, .int 0, .int 0, .int 0, .int 0, .int 0]) : ACell), (.inr (.int, [.int 1, .int 2]) : ACell), (.inr (.int, [.int 0, .int 1]) : ACell), (.inr (.long, [.long 9223372036854775807, .long 9223372036854775807, .long 9223372036854775807]) : ACell), (.inr (.long, [.long 0, .long 0]) : ACell)]) := by
  refine e7 ?_
  refine s7_0 ?_
  refine s7_1 rfl ?_
  refine s7_2 ?_
  refine s7_3 rfl ?_
  refine s7_6 ?_
  refine s7_7 1 rfl (by decide) rfl ?_
  refine s7_8 rfl ?_
  refine s7_10 ?_
  refine s7_12 ?_
  refine s7_13 rfl ?_
  refine s7_16 ?_
  refine s7_17 1 rfl (by decide) rfl ?_
  refine s7_18 ?_
  refine s7_19 rfl ?_
  refine s7_22 ?_
  refine s7_23 1 rfl (by decide) rfl ?_
  refine s7_24 ?_
  refine s7_25 (fun h => absurd h (by decide)) (fun _ => ?_)
  refine s7_28 ?_
  refine s7_29 rfl ?_
  refine s7_32 ?_
  refine s7_34 1 rfl (by decide) rfl ?_
  refine s7_35 ?_
  refine s7_38c (fun _ => ?_) (fun h => absurd h (by decide))
  refine s7_70 ?_
  refine s7_71 ?_
  refine s7_72 rfl ?_
  refine s7_75 ?_
  refine s7_77 1 rfl (by decide) rfl ?_
  refine s7_78 ?_
  refine s7_81c (fun _ => ?_) (fun h => absurd h (by decide))
  refine s7_89 ?_
  refine s7_90 ?_
  refine s7_91 rfl ?_
  refine s7_92 ?_
  refine s7_95 ?_
  refine s7_10 ?_
  refine s7_12 ?_
  refine s7_13 rfl ?_
  refine s7_16 ?_
  refine s7_17 1 rfl (by decide) rfl ?_
  refine s7_18 ?_
  refine s7_19 rfl ?_
  refine s7_22 ?_
  refine s7_23 1 rfl (by decide) rfl ?_
  refine s7_24 ?_
  refine s7_25 (fun h => absurd h (by decide)) (fun _ => ?_)
  refine s7_28 ?_
  refine s7_29 rfl ?_
  refine s7_32 ?_
  refine s7_34 2 rfl (by decide) rfl ?_
  refine s7_35 ?_
  refine s7_38c (fun h => absurd h (own_ne _)) (fun _ => ?_)
  refine s7_42 ?_
  refine s7_43 rfl ?_
  refine s7_46 ?_
  refine s7_48 2 rfl (by decide) rfl ?_
  refine s7_49 ?_
  refine s7_50 ?_
  refine s7_51 ?_
  refine s7_52 ?_
  refine s7_53 rfl ?_
  refine s7_56c (fun h => absurd hb h) (fun _ => ?_)
  refine s7_60 ?_
  refine s7_61 rfl ?_
  refine s7_64 ?_
  refine s7_66 ?_
  refine s7_69 2 rfl (by decide) rfl ?_
  refine s7_70 ?_
  refine s7_71 ?_
  refine s7_72 rfl ?_
  refine s7_75 ?_
  refine s7_77 2 rfl (by decide) rfl ?_
  refine s7_78 ?_
  refine s7_81c (fun _ => ?_) (fun h => absurd h (by decide))
  refine s7_89 ?_
  refine s7_90 ?_
  refine s7_91 rfl ?_
  refine s7_92 ?_
  refine s7_95 ?_
  refine s7_10 ?_
  refine s7_12 ?_
  refine s7_13 rfl ?_
  refine s7_16 ?_
  refine s7_17 1 rfl (by decide) rfl ?_
  refine s7_18 ?_
  refine s7_19 rfl ?_
  refine s7_22 ?_
  refine s7_23 1 rfl (by decide) rfl ?_
  refine s7_24 ?_
  refine s7_25 (fun _ => ?_) (fun h => absurd h (by decide))
  refine s7_98 ?_
  exact s7_99 ⟨rfl, rfl⟩
theorem own_r38 (a b c pd : Int32) (w : Int64) : M9 ⟨0, 0, 0, 0⟩ [.ref 2, .int 0, .int 0] [(.inr (.int, [.int 0, .int 1]) : ACell), (.inr (.int, [.int 1, .int 1]) : ACell), (.inl (0, [.ref 3, .ref 4, .ref 0, .ref 5, .long w, .ref 6, .ref 7, .ref 8, .long (b).toInt64]) : ACell), (.inr (.long, [.long 0, .long 0, .long 0, .long 0, .long 0, .long 0, .long 0, .long 0, .long 0, .long 0, .long 0, .long 0, .long 0, .long 0, .long 0, .long 0]) : ACell), (.inr (.int, [.int 0, .int 0, .int 0, .int 0, .int 0, .int 0, .int 0, .int 0, .int 0, .int 0, .int 0, .int 0, .int 0, .int 0, .int 0, .int 0]) : ACell), (.inr (.int, [.int 1, .int 2]) : ACell), (.inr (.int, [.int 0, .int 1]) : ACell), (.inr (.long, [.long 9223372036854775807, .long 9223372036854775807, .long 9223372036854775807]) : ACell), (.inr (.long, [.long 0, .long 0]) : ACell)] (Is (some (.long 9223372036854775807)) [(.inr (.int, [.int 0, .int 1]) : ACell), (.inr (.int, [.int 1, .int 1]) : ACell), (.inl (0, [.ref 3, .ref 4, .ref 0, .ref 5, .long w, .ref 6, .ref 7, .ref 8, .long (b).toInt64]) : ACell), (.inr (.long, [.long 0, .long 0, .long 0, .long 0, .long 0, .long 0, .long 0, .long 0, .long 0, .long 0, .long 0, .long 0, .long 0, .long 0, .long 0, .long 0]) : ACell), (.inr (.int, [.int 0, .int 0, .int 0, .int 0, .int 0, .int 0, .int 0, .int 0, .int 0, .int 0, .int 0, .int 0, .int 0, .int 0, .int 0, .int 0]) : ACell), (.inr (.int, [.int 1, .int 2]) : ACell), (.inr (.int, [.int 0, .int 1]) : ACell), (.inr (.long, [.long 9223372036854775807, .long 9223372036854775807, .long 9223372036854775807]) : ACell), (.inr (.long, [.long 0, .long 0]) : ACell)]) := by
  refine e9 ?_
  refine s9_0 ?_
  refine s9_1 rfl ?_
  refine s9_4 ?_
  refine s9_5 rfl ?_
  refine s9_8 ?_
  refine s9_9 0 rfl (by decide) rfl ?_
  refine s9_10 ?_
  refine s9_11 ?_
  refine s9_12 0 rfl (by decide) rfl ?_
  exact s9_13 ⟨rfl, rfl⟩
theorem own_r39 (a b c pd : Int32) (w : Int64) : M9 ⟨0, 0, 0, 0⟩ [.ref 2, .int 1, .int 0] [(.inr (.int, [.int 0, .int 1]) : ACell), (.inr (.int, [.int 1, .int 1]) : ACell), (.inl (0, [.ref 3, .ref 4, .ref 0, .ref 5, .long w, .ref 6, .ref 7, .ref 8, .long (b).toInt64]) : ACell), (.inr (.long, [.long 0, .long 0, .long 0, .long 0, .long 0, .long 0, .long 0, .long 0, .long 0, .long 0, .long 0, .long 0, .long 0, .long 0, .long 0, .long 0]) : ACell), (.inr (.int, [.int 0, .int 0, .int 0, .int 0, .int 0, .int 0, .int 0, .int 0, .int 0, .int 0, .int 0, .int 0, .int 0, .int 0, .int 0, .int 0]) : ACell), (.inr (.int, [.int 1, .int 2]) : ACell), (.inr (.int, [.int 0, .int 1]) : ACell), (.inr (.long, [.long 9223372036854775807, .long 9223372036854775807, .long 9223372036854775807]) : ACell), (.inr (.long, [.long 0, .long 0]) : ACell)] (Is (some (.long 9223372036854775807)) [(.inr (.int, [.int 0, .int 1]) : ACell), (.inr (.int, [.int 1, .int 1]) : ACell), (.inl (0, [.ref 3, .ref 4, .ref 0, .ref 5, .long w, .ref 6, .ref 7, .ref 8, .long (b).toInt64]) : ACell), (.inr (.long, [.long 0, .long 0, .long 0, .long 0, .long 0, .long 0, .long 0, .long 0, .long 0, .long 0, .long 0, .long 0, .long 0, .long 0, .long 0, .long 0]) : ACell), (.inr (.int, [.int 0, .int 0, .int 0, .int 0, .int 0, .int 0, .int 0, .int 0, .int 0, .int 0, .int 0, .int 0, .int 0, .int 0, .int 0, .int 0]) : ACell), (.inr (.int, [.int 1, .int 2]) : ACell), (.inr (.int, [.int 0, .int 1]) : ACell), (.inr (.long, [.long 9223372036854775807, .long 9223372036854775807, .long 9223372036854775807]) : ACell), (.inr (.long, [.long 0, .long 0]) : ACell)]) := by
  refine e9 ?_
  refine s9_0 ?_
  refine s9_1 rfl ?_
  refine s9_4 ?_
  refine s9_5 rfl ?_
  refine s9_8 ?_
  refine s9_9 1 rfl (by decide) rfl ?_
  refine s9_10 ?_
  refine s9_11 ?_
  refine s9_12 1 rfl (by decide) rfl ?_
  exact s9_13 ⟨rfl, rfl⟩
theorem own_r40 (a b c pd : Int32) (w : Int64) : M9 ⟨0, 0, 0, 0⟩ [.ref 2, .int 1, .int 1] [(.inr (.int, [.int 0, .int 1]) : ACell), (.inr (.int, [.int 1, .int 1]) : ACell), (.inl (0, [.ref 3, .ref 4, .ref 0, .ref 5, .long w, .ref 6, .ref 7, .ref 8, .long (b).toInt64]) : ACell), (.inr (.long, [.long 0, .long 0, .long 0, .long 0, .long 0, .long 0, .long 0, .long 0, .long 0, .long 0, .long 0, .long 0, .long 0, .long 0, .long 0, .long 0]) : ACell), (.inr (.int, [.int 0, .int 0, .int 0, .int 0, .int 0, .int 0, .int 0, .int 0, .int 0, .int 0, .int 0, .int 0, .int 0, .int 0, .int 0, .int 0]) : ACell), (.inr (.int, [.int 1, .int 2]) : ACell), (.inr (.int, [.int 0, .int 1]) : ACell), (.inr (.long, [.long 9223372036854775807, .long 9223372036854775807, .long 9223372036854775807]) : ACell), (.inr (.long, [.long 0, .long 0]) : ACell)] (Is (some (.long 9223372036854775807)) [(.inr (.int, [.int 0, .int 1]) : ACell), (.inr (.int, [.int 1, .int 1]) : ACell), (.inl (0, [.ref 3, .ref 4, .ref 0, .ref 5, .long w, .ref 6, .ref 7, .ref 8, .long (b).toInt64]) : ACell), (.inr (.long, [.long 0, .long 0, .long 0, .long 0, .long 0, .long 0, .long 0, .long 0, .long 0, .long 0, .long 0, .long 0, .long 0, .long 0, .long 0, .long 0]) : ACell), (.inr (.int, [.int 0, .int 0, .int 0, .int 0, .int 0, .int 0, .int 0, .int 0, .int 0, .int 0, .int 0, .int 0, .int 0, .int 0, .int 0, .int 0]) : ACell), (.inr (.int, [.int 1, .int 2]) : ACell), (.inr (.int, [.int 0, .int 1]) : ACell), (.inr (.long, [.long 9223372036854775807, .long 9223372036854775807, .long 9223372036854775807]) : ACell), (.inr (.long, [.long 0, .long 0]) : ACell)]) := by
  refine e9 ?_
  refine s9_0 ?_
  refine s9_1 rfl ?_
  refine s9_4 ?_
  refine s9_5 rfl ?_
  refine s9_8 ?_
  refine s9_9 1 rfl (by decide) rfl ?_
  refine s9_10 ?_
  refine s9_11 ?_
  refine s9_12 2 rfl (by decide) rfl ?_
  exact s9_13 ⟨rfl, rfl⟩
theorem own_r41 (a b c pd : Int32) (w : Int64) (hb : w < b.toInt64 - pd.toInt64) (hc : ¬ w < c.toInt64 - pd.toInt64) : M7 ⟨0, 0, 0, 0⟩ [.ref 2, .int 1, .int pd] [(.inr (.int, [.int 0, .int 1]) : ACell), (.inr (.int, [.int 1, .int 1]) : ACell), (.inl (0, [.ref 3, .ref 4, .ref 0, .ref 5, .long w, .ref 6, .ref 7, .ref 8, .long (b).toInt64]) : ACell), (.inr (.long, [.long 0, .long 0, .long 0, .long 0, .long 0, .long 0, .long 0, .long 0, .long 0, .long 0, .long 0, .long 0, .long 0, .long 0, .long 0, .long 0]) : ACell), (.inr (.int, [.int 0, .int 0, .int 0, .int 0, .int 0, .int 0, .int 0, .int 0, .int 0, .int 0, .int 0, .int 0, .int 0, .int 0, .int 0, .int 0]) : ACell), (.inr (.int, [.int 1, .int 2]) : ACell), (.inr (.int, [.int 0, .int 1]) : ACell), (.inr (.long, [.long (c).toInt64, .long 9223372036854775807, .long (b).toInt64]) : ACell), (.inr (.long, [.long 0, .long 0]) : ACell)] (Is (some (.int 0)) [(.inr (.int, [.int 0, .int 1]) : ACell), (.inr (.int, [.int 1, .int 1]) : ACell), (.inl (0, [.ref 3, .ref 4, .ref 0, .ref 5, .long w, .ref 6, .ref 7, .ref 8, .long (b).toInt64]) : ACell), (.inr (.long, [.long 0, .long 0, .long 0, .long 0, .long 0, .long 0, .long 0, .long 0, .long 0, .long 0, .long 0, .long 0, .long 0, .long 0, .long 0, .long 0]) : ACell), (.inr (.int, [.int 0, .int 0, .int 0, .int 0, .int 0, .int 0, .int 0, .int 0, .int 0, .int 0, .int 0, .int 0, .int 0, .int 0, .int 0, .int 0]) : ACell), (.inr (.int, [.int 1, .int 2]) : ACell), (.inr (.int, [.int 0, .int 1]) : ACell), (.inr (.long, [.long (c).toInt64, .long 9223372036854775807, .long 9223372036854775807]) : ACell), (.inr (.long, [.long 0, .long 0]) : ACell)]) := by
  refine e7 ?_
  refine s7_0 ?_
  refine s7_1 rfl ?_
  refine s7_2 ?_
  refine s7_3 rfl ?_
  refine s7_6 ?_
  refine s7_7 1 rfl (by decide) rfl ?_
  refine s7_8 rfl ?_
  refine s7_10 ?_
  refine s7_12 ?_
  refine s7_13 rfl ?_
  refine s7_16 ?_
  refine s7_17 1 rfl (by decide) rfl ?_
  refine s7_18 ?_
  refine s7_19 rfl ?_
  refine s7_22 ?_
  refine s7_23 1 rfl (by decide) rfl ?_
  refine s7_24 ?_
  refine s7_25 (fun h => absurd h (by decide)) (fun _ => ?_)
  refine s7_28 ?_
  refine s7_29 rfl ?_
  refine s7_32 ?_
  refine s7_34 1 rfl (by decide) rfl ?_
  refine s7_35 ?_
  refine s7_38c (fun _ => ?_) (fun h => absurd h (by decide))
  refine s7_70 ?_
  refine s7_71 ?_
  refine s7_72 rfl ?_
  refine s7_75 ?_
  refine s7_77 1 rfl (by decide) rfl ?_
  refine s7_78 ?_
  refine s7_81c (fun _ => ?_) (fun h => absurd h (by decide))
  refine s7_89 ?_
  refine s7_90 ?_
  refine s7_91 rfl ?_
  refine s7_92 ?_
  refine s7_95 ?_
  refine s7_10 ?_
  refine s7_12 ?_
  refine s7_13 rfl ?_
  refine s7_16 ?_
  refine s7_17 1 rfl (by decide) rfl ?_
  refine s7_18 ?_
  refine s7_19 rfl ?_
  refine s7_22 ?_
  refine s7_23 1 rfl (by decide) rfl ?_
  refine s7_24 ?_
  refine s7_25 (fun h => absurd h (by decide)) (fun _ => ?_)
  refine s7_28 ?_
  refine s7_29 rfl ?_
  refine s7_32 ?_
  refine s7_34 2 rfl (by decide) rfl ?_
  refine s7_35 ?_
  refine s7_38c (fun h => absurd h (own_ne _)) (fun _ => ?_)
  refine s7_42 ?_
  refine s7_43 rfl ?_
  refine s7_46 ?_
  refine s7_48 2 rfl (by decide) rfl ?_
  refine s7_49 ?_
  refine s7_50 ?_
  refine s7_51 ?_
  refine s7_52 ?_
  refine s7_53 rfl ?_
  refine s7_56c (fun h => absurd hb h) (fun _ => ?_)
  refine s7_60 ?_
  refine s7_61 rfl ?_
  refine s7_64 ?_
  refine s7_66 ?_
  refine s7_69 2 rfl (by decide) rfl ?_
  refine s7_70 ?_
  refine s7_71 ?_
  refine s7_72 rfl ?_
  refine s7_75 ?_
  refine s7_77 2 rfl (by decide) rfl ?_
  refine s7_78 ?_
  refine s7_81c (fun _ => ?_) (fun h => absurd h (by decide))
  refine s7_89 ?_
  refine s7_90 ?_
  refine s7_91 rfl ?_
  refine s7_92 ?_
  refine s7_95 ?_
  refine s7_10 ?_
  refine s7_12 ?_
  refine s7_13 rfl ?_
  refine s7_16 ?_
  refine s7_17 1 rfl (by decide) rfl ?_
  refine s7_18 ?_
  refine s7_19 rfl ?_
  refine s7_22 ?_
  refine s7_23 1 rfl (by decide) rfl ?_
  refine s7_24 ?_
  refine s7_25 (fun _ => ?_) (fun h => absurd h (by decide))
  refine s7_98 ?_
  exact s7_99 ⟨rfl, rfl⟩
theorem own_r43 (a b c pd : Int32) (w : Int64) : M9 ⟨0, 0, 0, 0⟩ [.ref 2, .int 0, .int 0] [(.inr (.int, [.int 0, .int 1]) : ACell), (.inr (.int, [.int 1, .int 1]) : ACell), (.inl (0, [.ref 3, .ref 4, .ref 0, .ref 5, .long w, .ref 6, .ref 7, .ref 8, .long (b).toInt64]) : ACell), (.inr (.long, [.long 0, .long 0, .long 0, .long 0, .long 0, .long 0, .long 0, .long 0, .long 0, .long 0, .long 0, .long 0, .long 0, .long 0, .long 0, .long 0]) : ACell), (.inr (.int, [.int 0, .int 0, .int 0, .int 0, .int 0, .int 0, .int 0, .int 0, .int 0, .int 0, .int 0, .int 0, .int 0, .int 0, .int 0, .int 0]) : ACell), (.inr (.int, [.int 1, .int 2]) : ACell), (.inr (.int, [.int 0, .int 1]) : ACell), (.inr (.long, [.long (c).toInt64, .long 9223372036854775807, .long 9223372036854775807]) : ACell), (.inr (.long, [.long 0, .long 0]) : ACell)] (Is (some (.long (c).toInt64)) [(.inr (.int, [.int 0, .int 1]) : ACell), (.inr (.int, [.int 1, .int 1]) : ACell), (.inl (0, [.ref 3, .ref 4, .ref 0, .ref 5, .long w, .ref 6, .ref 7, .ref 8, .long (b).toInt64]) : ACell), (.inr (.long, [.long 0, .long 0, .long 0, .long 0, .long 0, .long 0, .long 0, .long 0, .long 0, .long 0, .long 0, .long 0, .long 0, .long 0, .long 0, .long 0]) : ACell), (.inr (.int, [.int 0, .int 0, .int 0, .int 0, .int 0, .int 0, .int 0, .int 0, .int 0, .int 0, .int 0, .int 0, .int 0, .int 0, .int 0, .int 0]) : ACell), (.inr (.int, [.int 1, .int 2]) : ACell), (.inr (.int, [.int 0, .int 1]) : ACell), (.inr (.long, [.long (c).toInt64, .long 9223372036854775807, .long 9223372036854775807]) : ACell), (.inr (.long, [.long 0, .long 0]) : ACell)]) := by
  refine e9 ?_
  refine s9_0 ?_
  refine s9_1 rfl ?_
  refine s9_4 ?_
  refine s9_5 rfl ?_
  refine s9_8 ?_
  refine s9_9 0 rfl (by decide) rfl ?_
  refine s9_10 ?_
  refine s9_11 ?_
  refine s9_12 0 rfl (by decide) rfl ?_
  exact s9_13 ⟨rfl, rfl⟩
theorem own_r44 (a b c pd : Int32) (w : Int64) : M9 ⟨0, 0, 0, 0⟩ [.ref 2, .int 1, .int 0] [(.inr (.int, [.int 0, .int 1]) : ACell), (.inr (.int, [.int 1, .int 1]) : ACell), (.inl (0, [.ref 3, .ref 4, .ref 0, .ref 5, .long w, .ref 6, .ref 7, .ref 8, .long (b).toInt64]) : ACell), (.inr (.long, [.long 0, .long 0, .long 0, .long 0, .long 0, .long 0, .long 0, .long 0, .long 0, .long 0, .long 0, .long 0, .long 0, .long 0, .long 0, .long 0]) : ACell), (.inr (.int, [.int 0, .int 0, .int 0, .int 0, .int 0, .int 0, .int 0, .int 0, .int 0, .int 0, .int 0, .int 0, .int 0, .int 0, .int 0, .int 0]) : ACell), (.inr (.int, [.int 1, .int 2]) : ACell), (.inr (.int, [.int 0, .int 1]) : ACell), (.inr (.long, [.long (c).toInt64, .long 9223372036854775807, .long 9223372036854775807]) : ACell), (.inr (.long, [.long 0, .long 0]) : ACell)] (Is (some (.long 9223372036854775807)) [(.inr (.int, [.int 0, .int 1]) : ACell), (.inr (.int, [.int 1, .int 1]) : ACell), (.inl (0, [.ref 3, .ref 4, .ref 0, .ref 5, .long w, .ref 6, .ref 7, .ref 8, .long (b).toInt64]) : ACell), (.inr (.long, [.long 0, .long 0, .long 0, .long 0, .long 0, .long 0, .long 0, .long 0, .long 0, .long 0, .long 0, .long 0, .long 0, .long 0, .long 0, .long 0]) : ACell), (.inr (.int, [.int 0, .int 0, .int 0, .int 0, .int 0, .int 0, .int 0, .int 0, .int 0, .int 0, .int 0, .int 0, .int 0, .int 0, .int 0, .int 0]) : ACell), (.inr (.int, [.int 1, .int 2]) : ACell), (.inr (.int, [.int 0, .int 1]) : ACell), (.inr (.long, [.long (c).toInt64, .long 9223372036854775807, .long 9223372036854775807]) : ACell), (.inr (.long, [.long 0, .long 0]) : ACell)]) := by
  refine e9 ?_
  refine s9_0 ?_
  refine s9_1 rfl ?_
  refine s9_4 ?_
  refine s9_5 rfl ?_
  refine s9_8 ?_
  refine s9_9 1 rfl (by decide) rfl ?_
  refine s9_10 ?_
  refine s9_11 ?_
  refine s9_12 1 rfl (by decide) rfl ?_
  exact s9_13 ⟨rfl, rfl⟩
theorem own_r45 (a b c pd : Int32) (w : Int64) : M9 ⟨0, 0, 0, 0⟩ [.ref 2, .int 1, .int 1] [(.inr (.int, [.int 0, .int 1]) : ACell), (.inr (.int, [.int 1, .int 1]) : ACell), (.inl (0, [.ref 3, .ref 4, .ref 0, .ref 5, .long w, .ref 6, .ref 7, .ref 8, .long (b).toInt64]) : ACell), (.inr (.long, [.long 0, .long 0, .long 0, .long 0, .long 0, .long 0, .long 0, .long 0, .long 0, .long 0, .long 0, .long 0, .long 0, .long 0, .long 0, .long 0]) : ACell), (.inr (.int, [.int 0, .int 0, .int 0, .int 0, .int 0, .int 0, .int 0, .int 0, .int 0, .int 0, .int 0, .int 0, .int 0, .int 0, .int 0, .int 0]) : ACell), (.inr (.int, [.int 1, .int 2]) : ACell), (.inr (.int, [.int 0, .int 1]) : ACell), (.inr (.long, [.long (c).toInt64, .long 9223372036854775807, .long 9223372036854775807]) : ACell), (.inr (.long, [.long 0, .long 0]) : ACell)] (Is (some (.long 9223372036854775807)) [(.inr (.int, [.int 0, .int 1]) : ACell), (.inr (.int, [.int 1, .int 1]) : ACell), (.inl (0, [.ref 3, .ref 4, .ref 0, .ref 5, .long w, .ref 6, .ref 7, .ref 8, .long (b).toInt64]) : ACell), (.inr (.long, [.long 0, .long 0, .long 0, .long 0, .long 0, .long 0, .long 0, .long 0, .long 0, .long 0, .long 0, .long 0, .long 0, .long 0, .long 0, .long 0]) : ACell), (.inr (.int, [.int 0, .int 0, .int 0, .int 0, .int 0, .int 0, .int 0, .int 0, .int 0, .int 0, .int 0, .int 0, .int 0, .int 0, .int 0, .int 0]) : ACell), (.inr (.int, [.int 1, .int 2]) : ACell), (.inr (.int, [.int 0, .int 1]) : ACell), (.inr (.long, [.long (c).toInt64, .long 9223372036854775807, .long 9223372036854775807]) : ACell), (.inr (.long, [.long 0, .long 0]) : ACell)]) := by
  refine e9 ?_
  refine s9_0 ?_
  refine s9_1 rfl ?_
  refine s9_4 ?_
  refine s9_5 rfl ?_
  refine s9_8 ?_
  refine s9_9 1 rfl (by decide) rfl ?_
  refine s9_10 ?_
  refine s9_11 ?_
  refine s9_12 2 rfl (by decide) rfl ?_
  exact s9_13 ⟨rfl, rfl⟩
theorem own_r46 (a b c pd : Int32) (w : Int64) (hb : w < b.toInt64 - pd.toInt64) (hc : w < c.toInt64 - pd.toInt64) : M7 ⟨0, 0, 0, 0⟩ [.ref 2, .int 1, .int pd] [(.inr (.int, [.int 0, .int 1]) : ACell), (.inr (.int, [.int 1, .int 1]) : ACell), (.inl (0, [.ref 3, .ref 4, .ref 0, .ref 5, .long w, .ref 6, .ref 7, .ref 8, .long (b).toInt64]) : ACell), (.inr (.long, [.long 0, .long 0, .long 0, .long 0, .long 0, .long 0, .long 0, .long 0, .long 0, .long 0, .long 0, .long 0, .long 0, .long 0, .long 0, .long 0]) : ACell), (.inr (.int, [.int 0, .int 0, .int 0, .int 0, .int 0, .int 0, .int 0, .int 0, .int 0, .int 0, .int 0, .int 0, .int 0, .int 0, .int 0, .int 0]) : ACell), (.inr (.int, [.int 1, .int 2]) : ACell), (.inr (.int, [.int 0, .int 1]) : ACell), (.inr (.long, [.long (c).toInt64, .long 9223372036854775807, .long (b).toInt64]) : ACell), (.inr (.long, [.long 0, .long 0]) : ACell)] (Is (some (.int 0)) [(.inr (.int, [.int 0, .int 1]) : ACell), (.inr (.int, [.int 1, .int 1]) : ACell), (.inl (0, [.ref 3, .ref 4, .ref 0, .ref 5, .long w, .ref 6, .ref 7, .ref 8, .long (b).toInt64]) : ACell), (.inr (.long, [.long 0, .long 0, .long 0, .long 0, .long 0, .long 0, .long 0, .long 0, .long 0, .long 0, .long 0, .long 0, .long 0, .long 0, .long 0, .long 0]) : ACell), (.inr (.int, [.int 0, .int 0, .int 0, .int 0, .int 0, .int 0, .int 0, .int 0, .int 0, .int 0, .int 0, .int 0, .int 0, .int 0, .int 0, .int 0]) : ACell), (.inr (.int, [.int 1, .int 2]) : ACell), (.inr (.int, [.int 0, .int 1]) : ACell), (.inr (.long, [.long (c).toInt64, .long 9223372036854775807, .long 9223372036854775807]) : ACell), (.inr (.long, [.long 0, .long 0]) : ACell)]) := by
  refine e7 ?_
  refine s7_0 ?_
  refine s7_1 rfl ?_
  refine s7_2 ?_
  refine s7_3 rfl ?_
  refine s7_6 ?_
  refine s7_7 1 rfl (by decide) rfl ?_
  refine s7_8 rfl ?_
  refine s7_10 ?_
  refine s7_12 ?_
  refine s7_13 rfl ?_
  refine s7_16 ?_
  refine s7_17 1 rfl (by decide) rfl ?_
  refine s7_18 ?_
  refine s7_19 rfl ?_
  refine s7_22 ?_
  refine s7_23 1 rfl (by decide) rfl ?_
  refine s7_24 ?_
  refine s7_25 (fun h => absurd h (by decide)) (fun _ => ?_)
  refine s7_28 ?_
  refine s7_29 rfl ?_
  refine s7_32 ?_
  refine s7_34 1 rfl (by decide) rfl ?_
  refine s7_35 ?_
  refine s7_38c (fun _ => ?_) (fun h => absurd h (by decide))
  refine s7_70 ?_
  refine s7_71 ?_
  refine s7_72 rfl ?_
  refine s7_75 ?_
  refine s7_77 1 rfl (by decide) rfl ?_
  refine s7_78 ?_
  refine s7_81c (fun _ => ?_) (fun h => absurd h (by decide))
  refine s7_89 ?_
  refine s7_90 ?_
  refine s7_91 rfl ?_
  refine s7_92 ?_
  refine s7_95 ?_
  refine s7_10 ?_
  refine s7_12 ?_
  refine s7_13 rfl ?_
  refine s7_16 ?_
  refine s7_17 1 rfl (by decide) rfl ?_
  refine s7_18 ?_
  refine s7_19 rfl ?_
  refine s7_22 ?_
  refine s7_23 1 rfl (by decide) rfl ?_
  refine s7_24 ?_
  refine s7_25 (fun h => absurd h (by decide)) (fun _ => ?_)
  refine s7_28 ?_
  refine s7_29 rfl ?_
  refine s7_32 ?_
  refine s7_34 2 rfl (by decide) rfl ?_
  refine s7_35 ?_
  refine s7_38c (fun h => absurd h (own_ne _)) (fun _ => ?_)
  refine s7_42 ?_
  refine s7_43 rfl ?_
  refine s7_46 ?_
  refine s7_48 2 rfl (by decide) rfl ?_
  refine s7_49 ?_
  refine s7_50 ?_
  refine s7_51 ?_
  refine s7_52 ?_
  refine s7_53 rfl ?_
  refine s7_56c (fun h => absurd hb h) (fun _ => ?_)
  refine s7_60 ?_
  refine s7_61 rfl ?_
  refine s7_64 ?_
  refine s7_66 ?_
  refine s7_69 2 rfl (by decide) rfl ?_
  refine s7_70 ?_
  refine s7_71 ?_
  refine s7_72 rfl ?_
  refine s7_75 ?_
  refine s7_77 2 rfl (by decide) rfl ?_
  refine s7_78 ?_
  refine s7_81c (fun _ => ?_) (fun h => absurd h (by decide))
  refine s7_89 ?_
  refine s7_90 ?_
  refine s7_91 rfl ?_
  refine s7_92 ?_
  refine s7_95 ?_
  refine s7_10 ?_
  refine s7_12 ?_
  refine s7_13 rfl ?_
  refine s7_16 ?_
  refine s7_17 1 rfl (by decide) rfl ?_
  refine s7_18 ?_
  refine s7_19 rfl ?_
  refine s7_22 ?_
  refine s7_23 1 rfl (by decide) rfl ?_
  refine s7_24 ?_
  refine s7_25 (fun _ => ?_) (fun h => absurd h (by decide))
  refine s7_98 ?_
  exact s7_99 ⟨rfl, rfl⟩
theorem own_r48 (a b c pd : Int32) (w : Int64) : M4 ⟨0, 0, 0, 0⟩ [.ref 2, .int a] [(.inr (.int, [.int 0, .int 1]) : ACell), (.inr (.int, [.int 1, .int 1]) : ACell), (.inl (0, [.ref 3, .ref 4, .ref 0, .ref 5, .long w, .ref 6, .ref 7, .ref 8, .long 0]) : ACell), (.inr (.long, [.long 0, .long 0, .long 0, .long 0, .long 0, .long 0, .long 0, .long 0, .long 0, .long 0, .long 0, .long 0, .long 0, .long 0, .long 0, .long 0]) : ACell), (.inr (.int, [.int 0, .int 0, .int 0, .int 0, .int 0, .int 0, .int 0, .int 0, .int 0, .int 0, .int 0, .int 0, .int 0, .int 0, .int 0, .int 0]) : ACell), (.inr (.int, [.int 1, .int 2]) : ACell), (.inr (.int, [.int 0, .int 1]) : ACell), (.inr (.long, [.long 9223372036854775807, .long 9223372036854775807, .long 9223372036854775807]) : ACell), (.inr (.long, [.long 0, .long 0]) : ACell)] (Is none [(.inr (.int, [.int 0, .int 1]) : ACell), (.inr (.int, [.int 1, .int 1]) : ACell), (.inl (0, [.ref 3, .ref 4, .ref 0, .ref 5, .long w, .ref 6, .ref 7, .ref 8, .long (a).toInt64]) : ACell), (.inr (.long, [.long 0, .long 0, .long 0, .long 0, .long 0, .long 0, .long 0, .long 0, .long 0, .long 0, .long 0, .long 0, .long 0, .long 0, .long 0, .long 0]) : ACell), (.inr (.int, [.int 0, .int 0, .int 0, .int 0, .int 0, .int 0, .int 0, .int 0, .int 0, .int 0, .int 0, .int 0, .int 0, .int 0, .int 0, .int 0]) : ACell), (.inr (.int, [.int 1, .int 2]) : ACell), (.inr (.int, [.int 0, .int 1]) : ACell), (.inr (.long, [.long 9223372036854775807, .long 9223372036854775807, .long 9223372036854775807]) : ACell), (.inr (.long, [.long 0, .long 0]) : ACell)]) := by
  refine e4 ?_
  refine s4_0 ?_
  refine s4_1 ?_
  refine s4_2 ?_
  refine s4_3 rfl ?_
  exact s4_6 ⟨rfl, rfl⟩
theorem own_r49 (a b c pd : Int32) (w : Int64) : M6 ⟨0, 0, 0, 0⟩ [.long 9223372036854775807, .long (a).toInt64] [(.inr (.int, [.int 0, .int 1]) : ACell), (.inr (.int, [.int 1, .int 1]) : ACell), (.inl (0, [.ref 3, .ref 4, .ref 0, .ref 5, .long w, .ref 6, .ref 7, .ref 8, .long (a).toInt64]) : ACell), (.inr (.long, [.long 0, .long 0, .long 0, .long 0, .long 0, .long 0, .long 0, .long 0, .long 0, .long 0, .long 0, .long 0, .long 0, .long 0, .long 0, .long 0]) : ACell), (.inr (.int, [.int 0, .int 0, .int 0, .int 0, .int 0, .int 0, .int 0, .int 0, .int 0, .int 0, .int 0, .int 0, .int 0, .int 0, .int 0, .int 0]) : ACell), (.inr (.int, [.int 1, .int 2]) : ACell), (.inr (.int, [.int 0, .int 1]) : ACell), (.inr (.long, [.long 9223372036854775807, .long 9223372036854775807, .long 9223372036854775807]) : ACell), (.inr (.long, [.long 0, .long 0]) : ACell)] (Is (some (.long (a).toInt64)) [(.inr (.int, [.int 0, .int 1]) : ACell), (.inr (.int, [.int 1, .int 1]) : ACell), (.inl (0, [.ref 3, .ref 4, .ref 0, .ref 5, .long w, .ref 6, .ref 7, .ref 8, .long (a).toInt64]) : ACell), (.inr (.long, [.long 0, .long 0, .long 0, .long 0, .long 0, .long 0, .long 0, .long 0, .long 0, .long 0, .long 0, .long 0, .long 0, .long 0, .long 0, .long 0]) : ACell), (.inr (.int, [.int 0, .int 0, .int 0, .int 0, .int 0, .int 0, .int 0, .int 0, .int 0, .int 0, .int 0, .int 0, .int 0, .int 0, .int 0, .int 0]) : ACell), (.inr (.int, [.int 1, .int 2]) : ACell), (.inr (.int, [.int 0, .int 1]) : ACell), (.inr (.long, [.long 9223372036854775807, .long 9223372036854775807, .long 9223372036854775807]) : ACell), (.inr (.long, [.long 0, .long 0]) : ACell)]) := by
  refine e6 ?_
  refine s6_0 ?_
  refine s6_1 ?_
  refine s6_2c (fun _ => ?_) (fun h => absurd (own_lt _) h)
  refine s6_10 ?_
  exact s6_11 ⟨rfl, rfl⟩
theorem own_r50 (a b c pd : Int32) (w : Int64) : M5 ⟨1, 0, 0, 17⟩ [.ref 2, .int 1, .int 0, .int (-1)] [(.inr (.int, [.int 0, .int 1]) : ACell), (.inr (.int, [.int 1, .int 1]) : ACell), (.inl (0, [.ref 3, .ref 4, .ref 0, .ref 5, .long w, .ref 6, .ref 7, .ref 8, .long (a).toInt64]) : ACell), (.inr (.long, [.long 0, .long 0, .long 0, .long 0, .long 0, .long 0, .long 0, .long 0, .long 0, .long 0, .long 0, .long 0, .long 0, .long 0, .long 0, .long 0]) : ACell), (.inr (.int, [.int 0, .int 0, .int 0, .int 0, .int 0, .int 0, .int 0, .int 0, .int 0, .int 0, .int 0, .int 0, .int 0, .int 0, .int 0, .int 0]) : ACell), (.inr (.int, [.int 1, .int 2]) : ACell), (.inr (.int, [.int 0, .int 1]) : ACell), (.inr (.long, [.long 9223372036854775807, .long 9223372036854775807, .long 9223372036854775807]) : ACell), (.inr (.long, [.long 0, .long 0]) : ACell)] (Is none [(.inr (.int, [.int 0, .int 1]) : ACell), (.inr (.int, [.int 1, .int 1]) : ACell), (.inl (0, [.ref 3, .ref 4, .ref 0, .ref 5, .long w, .ref 6, .ref 7, .ref 8, .long (a).toInt64]) : ACell), (.inr (.long, [.long 0, .long 0, .long 0, .long 0, .long 0, .long 0, .long 0, .long 0, .long 0, .long 0, .long 0, .long 0, .long 0, .long 0, .long 0, .long 0]) : ACell), (.inr (.int, [.int 0, .int 0, .int 0, .int 0, .int 0, .int 0, .int 0, .int 0, .int 0, .int 0, .int 0, .int 0, .int 0, .int 0, .int 0, .int 0]) : ACell), (.inr (.int, [.int 1, .int 2]) : ACell), (.inr (.int, [.int 0, .int 1]) : ACell), (.inr (.long, [.long 9223372036854775807, .long (a).toInt64, .long 9223372036854775807]) : ACell), (.inr (.long, [.long 0, .long 0]) : ACell)]) := by
  refine e5 ?_
  refine s5_0 ?_
  refine s5_1 rfl ?_
  refine s5_4 ?_
  refine s5_5 1 rfl (by decide) rfl ?_
  refine s5_6 ?_
  refine s5_7 ?_
  refine s5_8 rfl ?_
  refine s5_10 ?_
  refine s5_11 rfl ?_
  refine s5_14 ?_
  refine s5_16 ?_
  refine s5_17 rfl ?_
  refine s5_20 ?_
  refine s5_22 1 rfl (by decide) rfl ?_
  refine s5_23 ?_
  refine s5_24 ?_
  refine s5_25 (fun h => absurd h (by decide)) (fun _ => ?_)
  refine s5_28 ?_
  refine s5_29 rfl ?_
  refine s5_32 ?_
  refine s5_48 (own_r49 a b c pd w) rfl ?_
  refine s5_51 1 rfl (by decide) rfl ?_
  exact s5_52 ⟨rfl, rfl⟩
theorem own_r51 (a b c pd : Int32) (w : Int64) (ha : ¬ w < a.toInt64 - pd.toInt64) : M7 ⟨0, 0, 0, 0⟩ [.ref 2, .int 1, .int pd] [(.inr (.int, [.int 0, .int 1]) : ACell), (.inr (.int, [.int 1, .int 1]) : ACell), (.inl (0, [.ref 3, .ref 4, .ref 0, .ref 5, .long w, .ref 6, .ref 7, .ref 8, .long (a).toInt64]) : ACell), (.inr (.long, [.long 0, .long 0, .long 0, .long 0, .long 0, .long 0, .long 0, .long 0, .long 0, .long 0, .long 0, .long 0, .long 0, .long 0, .long 0, .long 0]) : ACell), (.inr (.int, [.int 0, .int 0, .int 0, .int 0, .int 0, .int 0, .int 0, .int 0, .int 0, .int 0, .int 0, .int 0, .int 0, .int 0, .int 0, .int 0]) : ACell), (.inr (.int, [.int 1, .int 2]) : ACell), (.inr (.int, [.int 0, .int 1]) : ACell), (.inr (.long, [.long 9223372036854775807, .long (a).toInt64, .long 9223372036854775807]) : ACell), (.inr (.long, [.long 0, .long 0]) : ACell)] (Is (some (.int 1)) [(.inr (.int, [.int 0, .int 1]) : ACell), (.inr (.int, [.int 1, .int 1]) : ACell), (.inl (0, [.ref 3, .ref 4, .ref 0, .ref 5, .long w, .ref 6, .ref 7, .ref 8, .long (a).toInt64]) : ACell), (.inr (.long, [.long 0, .long 0, .long 0, .long 0, .long 0, .long 0, .long 0, .long 0, .long 0, .long 0, .long 0, .long 0, .long 0, .long 0, .long 0, .long 0]) : ACell), (.inr (.int, [.int 0, .int 0, .int 0, .int 0, .int 0, .int 0, .int 0, .int 0, .int 0, .int 0, .int 0, .int 0, .int 0, .int 0, .int 0, .int 0]) : ACell), (.inr (.int, [.int 1, .int 2]) : ACell), (.inr (.int, [.int 0, .int 1]) : ACell), (.inr (.long, [.long 9223372036854775807, .long (a).toInt64, .long 9223372036854775807]) : ACell), (.inr (.long, [.long 0, .long 0]) : ACell)]) := by
  refine e7 ?_
  refine s7_0 ?_
  refine s7_1 rfl ?_
  refine s7_2 ?_
  refine s7_3 rfl ?_
  refine s7_6 ?_
  refine s7_7 1 rfl (by decide) rfl ?_
  refine s7_8 rfl ?_
  refine s7_10 ?_
  refine s7_12 ?_
  refine s7_13 rfl ?_
  refine s7_16 ?_
  refine s7_17 1 rfl (by decide) rfl ?_
  refine s7_18 ?_
  refine s7_19 rfl ?_
  refine s7_22 ?_
  refine s7_23 1 rfl (by decide) rfl ?_
  refine s7_24 ?_
  refine s7_25 (fun h => absurd h (by decide)) (fun _ => ?_)
  refine s7_28 ?_
  refine s7_29 rfl ?_
  refine s7_32 ?_
  refine s7_34 1 rfl (by decide) rfl ?_
  refine s7_35 ?_
  refine s7_38c (fun h => absurd h (own_ne _)) (fun _ => ?_)
  refine s7_42 ?_
  refine s7_43 rfl ?_
  refine s7_46 ?_
  refine s7_48 1 rfl (by decide) rfl ?_
  refine s7_49 ?_
  refine s7_50 ?_
  refine s7_51 ?_
  refine s7_52 ?_
  refine s7_53 rfl ?_
  refine s7_56c (fun _ => ?_) (fun h => absurd h ha)
  refine s7_70 ?_
  refine s7_71 ?_
  refine s7_72 rfl ?_
  refine s7_75 ?_
  refine s7_77 1 rfl (by decide) rfl ?_
  refine s7_78 ?_
  refine s7_81c (fun h => absurd h (own_ne _)) (fun _ => ?_)
  refine s7_85 ?_
  refine s7_86 ?_
  refine s7_90 ?_
  refine s7_91 rfl ?_
  refine s7_92 ?_
  refine s7_95 ?_
  refine s7_10 ?_
  refine s7_12 ?_
  refine s7_13 rfl ?_
  refine s7_16 ?_
  refine s7_17 1 rfl (by decide) rfl ?_
  refine s7_18 ?_
  refine s7_19 rfl ?_
  refine s7_22 ?_
  refine s7_23 1 rfl (by decide) rfl ?_
  refine s7_24 ?_
  refine s7_25 (fun h => absurd h (by decide)) (fun _ => ?_)
  refine s7_28 ?_
  refine s7_29 rfl ?_
  refine s7_32 ?_
  refine s7_34 2 rfl (by decide) rfl ?_
  refine s7_35 ?_
  refine s7_38c (fun _ => ?_) (fun h => absurd h (by decide))
  refine s7_70 ?_
  refine s7_71 ?_
  refine s7_72 rfl ?_
  refine s7_75 ?_
  refine s7_77 2 rfl (by decide) rfl ?_
  refine s7_78 ?_
  refine s7_81c (fun _ => ?_) (fun h => absurd h (by decide))
  refine s7_89 ?_
  refine s7_90 ?_
  refine s7_91 rfl ?_
  refine s7_92 ?_
  refine s7_95 ?_
  refine s7_10 ?_
  refine s7_12 ?_
  refine s7_13 rfl ?_
  refine s7_16 ?_
  refine s7_17 1 rfl (by decide) rfl ?_
  refine s7_18 ?_
  refine s7_19 rfl ?_
  refine s7_22 ?_
  refine s7_23 1 rfl (by decide) rfl ?_
  refine s7_24 ?_
  refine s7_25 (fun _ => ?_) (fun h => absurd h (by decide))
  refine s7_98 ?_
  exact s7_99 ⟨rfl, rfl⟩
theorem own_r53 (a b c pd : Int32) (w : Int64) : M9 ⟨0, 0, 0, 0⟩ [.ref 2, .int 0, .int 0] [(.inr (.int, [.int 0, .int 1]) : ACell), (.inr (.int, [.int 1, .int 1]) : ACell), (.inl (0, [.ref 3, .ref 4, .ref 0, .ref 5, .long w, .ref 6, .ref 7, .ref 8, .long (a).toInt64]) : ACell), (.inr (.long, [.long 0, .long 0, .long 0, .long 0, .long 0, .long 0, .long 0, .long 0, .long 0, .long 0, .long 0, .long 0, .long 0, .long 0, .long 0, .long 0]) : ACell), (.inr (.int, [.int 0, .int 0, .int 0, .int 0, .int 0, .int 0, .int 0, .int 0, .int 0, .int 0, .int 0, .int 0, .int 0, .int 0, .int 0, .int 0]) : ACell), (.inr (.int, [.int 1, .int 2]) : ACell), (.inr (.int, [.int 0, .int 1]) : ACell), (.inr (.long, [.long 9223372036854775807, .long (a).toInt64, .long 9223372036854775807]) : ACell), (.inr (.long, [.long 0, .long 0]) : ACell)] (Is (some (.long 9223372036854775807)) [(.inr (.int, [.int 0, .int 1]) : ACell), (.inr (.int, [.int 1, .int 1]) : ACell), (.inl (0, [.ref 3, .ref 4, .ref 0, .ref 5, .long w, .ref 6, .ref 7, .ref 8, .long (a).toInt64]) : ACell), (.inr (.long, [.long 0, .long 0, .long 0, .long 0, .long 0, .long 0, .long 0, .long 0, .long 0, .long 0, .long 0, .long 0, .long 0, .long 0, .long 0, .long 0]) : ACell), (.inr (.int, [.int 0, .int 0, .int 0, .int 0, .int 0, .int 0, .int 0, .int 0, .int 0, .int 0, .int 0, .int 0, .int 0, .int 0, .int 0, .int 0]) : ACell), (.inr (.int, [.int 1, .int 2]) : ACell), (.inr (.int, [.int 0, .int 1]) : ACell), (.inr (.long, [.long 9223372036854775807, .long (a).toInt64, .long 9223372036854775807]) : ACell), (.inr (.long, [.long 0, .long 0]) : ACell)]) := by
  refine e9 ?_
  refine s9_0 ?_
  refine s9_1 rfl ?_
  refine s9_4 ?_
  refine s9_5 rfl ?_
  refine s9_8 ?_
  refine s9_9 0 rfl (by decide) rfl ?_
  refine s9_10 ?_
  refine s9_11 ?_
  refine s9_12 0 rfl (by decide) rfl ?_
  exact s9_13 ⟨rfl, rfl⟩
theorem own_r54 (a b c pd : Int32) (w : Int64) : M9 ⟨0, 0, 0, 0⟩ [.ref 2, .int 1, .int 0] [(.inr (.int, [.int 0, .int 1]) : ACell), (.inr (.int, [.int 1, .int 1]) : ACell), (.inl (0, [.ref 3, .ref 4, .ref 0, .ref 5, .long w, .ref 6, .ref 7, .ref 8, .long (a).toInt64]) : ACell), (.inr (.long, [.long 0, .long 0, .long 0, .long 0, .long 0, .long 0, .long 0, .long 0, .long 0, .long 0, .long 0, .long 0, .long 0, .long 0, .long 0, .long 0]) : ACell), (.inr (.int, [.int 0, .int 0, .int 0, .int 0, .int 0, .int 0, .int 0, .int 0, .int 0, .int 0, .int 0, .int 0, .int 0, .int 0, .int 0, .int 0]) : ACell), (.inr (.int, [.int 1, .int 2]) : ACell), (.inr (.int, [.int 0, .int 1]) : ACell), (.inr (.long, [.long 9223372036854775807, .long (a).toInt64, .long 9223372036854775807]) : ACell), (.inr (.long, [.long 0, .long 0]) : ACell)] (Is (some (.long (a).toInt64)) [(.inr (.int, [.int 0, .int 1]) : ACell), (.inr (.int, [.int 1, .int 1]) : ACell), (.inl (0, [.ref 3, .ref 4, .ref 0, .ref 5, .long w, .ref 6, .ref 7, .ref 8, .long (a).toInt64]) : ACell), (.inr (.long, [.long 0, .long 0, .long 0, .long 0, .long 0, .long 0, .long 0, .long 0, .long 0, .long 0, .long 0, .long 0, .long 0, .long 0, .long 0, .long 0]) : ACell), (.inr (.int, [.int 0, .int 0, .int 0, .int 0, .int 0, .int 0, .int 0, .int 0, .int 0, .int 0, .int 0, .int 0, .int 0, .int 0, .int 0, .int 0]) : ACell), (.inr (.int, [.int 1, .int 2]) : ACell), (.inr (.int, [.int 0, .int 1]) : ACell), (.inr (.long, [.long 9223372036854775807, .long (a).toInt64, .long 9223372036854775807]) : ACell), (.inr (.long, [.long 0, .long 0]) : ACell)]) := by
  refine e9 ?_
  refine s9_0 ?_
  refine s9_1 rfl ?_
  refine s9_4 ?_
  refine s9_5 rfl ?_
  refine s9_8 ?_
  refine s9_9 1 rfl (by decide) rfl ?_
  refine s9_10 ?_
  refine s9_11 ?_
  refine s9_12 1 rfl (by decide) rfl ?_
  exact s9_13 ⟨rfl, rfl⟩
theorem own_r55 (a b c pd : Int32) (w : Int64) : M9 ⟨0, 0, 0, 0⟩ [.ref 2, .int 1, .int 1] [(.inr (.int, [.int 0, .int 1]) : ACell), (.inr (.int, [.int 1, .int 1]) : ACell), (.inl (0, [.ref 3, .ref 4, .ref 0, .ref 5, .long w, .ref 6, .ref 7, .ref 8, .long (a).toInt64]) : ACell), (.inr (.long, [.long 0, .long 0, .long 0, .long 0, .long 0, .long 0, .long 0, .long 0, .long 0, .long 0, .long 0, .long 0, .long 0, .long 0, .long 0, .long 0]) : ACell), (.inr (.int, [.int 0, .int 0, .int 0, .int 0, .int 0, .int 0, .int 0, .int 0, .int 0, .int 0, .int 0, .int 0, .int 0, .int 0, .int 0, .int 0]) : ACell), (.inr (.int, [.int 1, .int 2]) : ACell), (.inr (.int, [.int 0, .int 1]) : ACell), (.inr (.long, [.long 9223372036854775807, .long (a).toInt64, .long 9223372036854775807]) : ACell), (.inr (.long, [.long 0, .long 0]) : ACell)] (Is (some (.long 9223372036854775807)) [(.inr (.int, [.int 0, .int 1]) : ACell), (.inr (.int, [.int 1, .int 1]) : ACell), (.inl (0, [.ref 3, .ref 4, .ref 0, .ref 5, .long w, .ref 6, .ref 7, .ref 8, .long (a).toInt64]) : ACell), (.inr (.long, [.long 0, .long 0, .long 0, .long 0, .long 0, .long 0, .long 0, .long 0, .long 0, .long 0, .long 0, .long 0, .long 0, .long 0, .long 0, .long 0]) : ACell), (.inr (.int, [.int 0, .int 0, .int 0, .int 0, .int 0, .int 0, .int 0, .int 0, .int 0, .int 0, .int 0, .int 0, .int 0, .int 0, .int 0, .int 0]) : ACell), (.inr (.int, [.int 1, .int 2]) : ACell), (.inr (.int, [.int 0, .int 1]) : ACell), (.inr (.long, [.long 9223372036854775807, .long (a).toInt64, .long 9223372036854775807]) : ACell), (.inr (.long, [.long 0, .long 0]) : ACell)]) := by
  refine e9 ?_
  refine s9_0 ?_
  refine s9_1 rfl ?_
  refine s9_4 ?_
  refine s9_5 rfl ?_
  refine s9_8 ?_
  refine s9_9 1 rfl (by decide) rfl ?_
  refine s9_10 ?_
  refine s9_11 ?_
  refine s9_12 2 rfl (by decide) rfl ?_
  exact s9_13 ⟨rfl, rfl⟩
theorem own_r56 (a b c pd : Int32) (w : Int64) : M4 ⟨0, 0, 0, 0⟩ [.ref 2, .int a] [(.inr (.int, [.int 0, .int 1]) : ACell), (.inr (.int, [.int 1, .int 1]) : ACell), (.inl (0, [.ref 3, .ref 4, .ref 0, .ref 5, .long w, .ref 6, .ref 7, .ref 8, .long (c).toInt64]) : ACell), (.inr (.long, [.long 0, .long 0, .long 0, .long 0, .long 0, .long 0, .long 0, .long 0, .long 0, .long 0, .long 0, .long 0, .long 0, .long 0, .long 0, .long 0]) : ACell), (.inr (.int, [.int 0, .int 0, .int 0, .int 0, .int 0, .int 0, .int 0, .int 0, .int 0, .int 0, .int 0, .int 0, .int 0, .int 0, .int 0, .int 0]) : ACell), (.inr (.int, [.int 1, .int 2]) : ACell), (.inr (.int, [.int 0, .int 1]) : ACell), (.inr (.long, [.long (c).toInt64, .long 9223372036854775807, .long 9223372036854775807]) : ACell), (.inr (.long, [.long 0, .long 0]) : ACell)] (Is none [(.inr (.int, [.int 0, .int 1]) : ACell), (.inr (.int, [.int 1, .int 1]) : ACell), (.inl (0, [.ref 3, .ref 4, .ref 0, .ref 5, .long w, .ref 6, .ref 7, .ref 8, .long (a).toInt64]) : ACell), (.inr (.long, [.long 0, .long 0, .long 0, .long 0, .long 0, .long 0, .long 0, .long 0, .long 0, .long 0, .long 0, .long 0, .long 0, .long 0, .long 0, .long 0]) : ACell), (.inr (.int, [.int 0, .int 0, .int 0, .int 0, .int 0, .int 0, .int 0, .int 0, .int 0, .int 0, .int 0, .int 0, .int 0, .int 0, .int 0, .int 0]) : ACell), (.inr (.int, [.int 1, .int 2]) : ACell), (.inr (.int, [.int 0, .int 1]) : ACell), (.inr (.long, [.long (c).toInt64, .long 9223372036854775807, .long 9223372036854775807]) : ACell), (.inr (.long, [.long 0, .long 0]) : ACell)]) := by
  refine e4 ?_
  refine s4_0 ?_
  refine s4_1 ?_
  refine s4_2 ?_
  refine s4_3 rfl ?_
  exact s4_6 ⟨rfl, rfl⟩
theorem own_r57 (a b c pd : Int32) (w : Int64) : M6 ⟨0, 0, 0, 0⟩ [.long 9223372036854775807, .long (a).toInt64] [(.inr (.int, [.int 0, .int 1]) : ACell), (.inr (.int, [.int 1, .int 1]) : ACell), (.inl (0, [.ref 3, .ref 4, .ref 0, .ref 5, .long w, .ref 6, .ref 7, .ref 8, .long (a).toInt64]) : ACell), (.inr (.long, [.long 0, .long 0, .long 0, .long 0, .long 0, .long 0, .long 0, .long 0, .long 0, .long 0, .long 0, .long 0, .long 0, .long 0, .long 0, .long 0]) : ACell), (.inr (.int, [.int 0, .int 0, .int 0, .int 0, .int 0, .int 0, .int 0, .int 0, .int 0, .int 0, .int 0, .int 0, .int 0, .int 0, .int 0, .int 0]) : ACell), (.inr (.int, [.int 1, .int 2]) : ACell), (.inr (.int, [.int 0, .int 1]) : ACell), (.inr (.long, [.long (c).toInt64, .long 9223372036854775807, .long 9223372036854775807]) : ACell), (.inr (.long, [.long 0, .long 0]) : ACell)] (Is (some (.long (a).toInt64)) [(.inr (.int, [.int 0, .int 1]) : ACell), (.inr (.int, [.int 1, .int 1]) : ACell), (.inl (0, [.ref 3, .ref 4, .ref 0, .ref 5, .long w, .ref 6, .ref 7, .ref 8, .long (a).toInt64]) : ACell), (.inr (.long, [.long 0, .long 0, .long 0, .long 0, .long 0, .long 0, .long 0, .long 0, .long 0, .long 0, .long 0, .long 0, .long 0, .long 0, .long 0, .long 0]) : ACell), (.inr (.int, [.int 0, .int 0, .int 0, .int 0, .int 0, .int 0, .int 0, .int 0, .int 0, .int 0, .int 0, .int 0, .int 0, .int 0, .int 0, .int 0]) : ACell), (.inr (.int, [.int 1, .int 2]) : ACell), (.inr (.int, [.int 0, .int 1]) : ACell), (.inr (.long, [.long (c).toInt64, .long 9223372036854775807, .long 9223372036854775807]) : ACell), (.inr (.long, [.long 0, .long 0]) : ACell)]) := by
  refine e6 ?_
  refine s6_0 ?_
  refine s6_1 ?_
  refine s6_2c (fun _ => ?_) (fun h => absurd (own_lt _) h)
  refine s6_10 ?_
  exact s6_11 ⟨rfl, rfl⟩
theorem own_r58 (a b c pd : Int32) (w : Int64) : M5 ⟨1, 0, 0, 17⟩ [.ref 2, .int 1, .int 0, .int (-1)] [(.inr (.int, [.int 0, .int 1]) : ACell), (.inr (.int, [.int 1, .int 1]) : ACell), (.inl (0, [.ref 3, .ref 4, .ref 0, .ref 5, .long w, .ref 6, .ref 7, .ref 8, .long (a).toInt64]) : ACell), (.inr (.long, [.long 0, .long 0, .long 0, .long 0, .long 0, .long 0, .long 0, .long 0, .long 0, .long 0, .long 0, .long 0, .long 0, .long 0, .long 0, .long 0]) : ACell), (.inr (.int, [.int 0, .int 0, .int 0, .int 0, .int 0, .int 0, .int 0, .int 0, .int 0, .int 0, .int 0, .int 0, .int 0, .int 0, .int 0, .int 0]) : ACell), (.inr (.int, [.int 1, .int 2]) : ACell), (.inr (.int, [.int 0, .int 1]) : ACell), (.inr (.long, [.long (c).toInt64, .long 9223372036854775807, .long 9223372036854775807]) : ACell), (.inr (.long, [.long 0, .long 0]) : ACell)] (Is none [(.inr (.int, [.int 0, .int 1]) : ACell), (.inr (.int, [.int 1, .int 1]) : ACell), (.inl (0, [.ref 3, .ref 4, .ref 0, .ref 5, .long w, .ref 6, .ref 7, .ref 8, .long (a).toInt64]) : ACell), (.inr (.long, [.long 0, .long 0, .long 0, .long 0, .long 0, .long 0, .long 0, .long 0, .long 0, .long 0, .long 0, .long 0, .long 0, .long 0, .long 0, .long 0]) : ACell), (.inr (.int, [.int 0, .int 0, .int 0, .int 0, .int 0, .int 0, .int 0, .int 0, .int 0, .int 0, .int 0, .int 0, .int 0, .int 0, .int 0, .int 0]) : ACell), (.inr (.int, [.int 1, .int 2]) : ACell), (.inr (.int, [.int 0, .int 1]) : ACell), (.inr (.long, [.long (c).toInt64, .long (a).toInt64, .long 9223372036854775807]) : ACell), (.inr (.long, [.long 0, .long 0]) : ACell)]) := by
  refine e5 ?_
  refine s5_0 ?_
  refine s5_1 rfl ?_
  refine s5_4 ?_
  refine s5_5 1 rfl (by decide) rfl ?_
  refine s5_6 ?_
  refine s5_7 ?_
  refine s5_8 rfl ?_
  refine s5_10 ?_
  refine s5_11 rfl ?_
  refine s5_14 ?_
  refine s5_16 ?_
  refine s5_17 rfl ?_
  refine s5_20 ?_
  refine s5_22 1 rfl (by decide) rfl ?_
  refine s5_23 ?_
  refine s5_24 ?_
  refine s5_25 (fun h => absurd h (by decide)) (fun _ => ?_)
  refine s5_28 ?_
  refine s5_29 rfl ?_
  refine s5_32 ?_
  refine s5_48 (own_r57 a b c pd w) rfl ?_
  refine s5_51 1 rfl (by decide) rfl ?_
  exact s5_52 ⟨rfl, rfl⟩
theorem own_r59 (a b c pd : Int32) (w : Int64) (ha : ¬ w < a.toInt64 - pd.toInt64) (hc : ¬ w < c.toInt64 - pd.toInt64) : M7 ⟨0, 0, 0, 0⟩ [.ref 2, .int 1, .int pd] [(.inr (.int, [.int 0, .int 1]) : ACell), (.inr (.int, [.int 1, .int 1]) : ACell), (.inl (0, [.ref 3, .ref 4, .ref 0, .ref 5, .long w, .ref 6, .ref 7, .ref 8, .long (a).toInt64]) : ACell), (.inr (.long, [.long 0, .long 0, .long 0, .long 0, .long 0, .long 0, .long 0, .long 0, .long 0, .long 0, .long 0, .long 0, .long 0, .long 0, .long 0, .long 0]) : ACell), (.inr (.int, [.int 0, .int 0, .int 0, .int 0, .int 0, .int 0, .int 0, .int 0, .int 0, .int 0, .int 0, .int 0, .int 0, .int 0, .int 0, .int 0]) : ACell), (.inr (.int, [.int 1, .int 2]) : ACell), (.inr (.int, [.int 0, .int 1]) : ACell), (.inr (.long, [.long (c).toInt64, .long (a).toInt64, .long 9223372036854775807]) : ACell), (.inr (.long, [.long 0, .long 0]) : ACell)] (Is (some (.int 1)) [(.inr (.int, [.int 0, .int 1]) : ACell), (.inr (.int, [.int 1, .int 1]) : ACell), (.inl (0, [.ref 3, .ref 4, .ref 0, .ref 5, .long w, .ref 6, .ref 7, .ref 8, .long (a).toInt64]) : ACell), (.inr (.long, [.long 0, .long 0, .long 0, .long 0, .long 0, .long 0, .long 0, .long 0, .long 0, .long 0, .long 0, .long 0, .long 0, .long 0, .long 0, .long 0]) : ACell), (.inr (.int, [.int 0, .int 0, .int 0, .int 0, .int 0, .int 0, .int 0, .int 0, .int 0, .int 0, .int 0, .int 0, .int 0, .int 0, .int 0, .int 0]) : ACell), (.inr (.int, [.int 1, .int 2]) : ACell), (.inr (.int, [.int 0, .int 1]) : ACell), (.inr (.long, [.long (c).toInt64, .long (a).toInt64, .long 9223372036854775807]) : ACell), (.inr (.long, [.long 0, .long 0]) : ACell)]) := by
  refine e7 ?_
  refine s7_0 ?_
  refine s7_1 rfl ?_
  refine s7_2 ?_
  refine s7_3 rfl ?_
  refine s7_6 ?_
  refine s7_7 1 rfl (by decide) rfl ?_
  refine s7_8 rfl ?_
  refine s7_10 ?_
  refine s7_12 ?_
  refine s7_13 rfl ?_
  refine s7_16 ?_
  refine s7_17 1 rfl (by decide) rfl ?_
  refine s7_18 ?_
  refine s7_19 rfl ?_
  refine s7_22 ?_
  refine s7_23 1 rfl (by decide) rfl ?_
  refine s7_24 ?_
  refine s7_25 (fun h => absurd h (by decide)) (fun _ => ?_)
  refine s7_28 ?_
  refine s7_29 rfl ?_
  refine s7_32 ?_
  refine s7_34 1 rfl (by decide) rfl ?_
  refine s7_35 ?_
  refine s7_38c (fun h => absurd h (own_ne _)) (fun _ => ?_)
  refine s7_42 ?_
  refine s7_43 rfl ?_
  refine s7_46 ?_
  refine s7_48 1 rfl (by decide) rfl ?_
  refine s7_49 ?_
  refine s7_50 ?_
  refine s7_51 ?_
  refine s7_52 ?_
  refine s7_53 rfl ?_
  refine s7_56c (fun _ => ?_) (fun h => absurd h ha)
  refine s7_70 ?_
  refine s7_71 ?_
  refine s7_72 rfl ?_
  refine s7_75 ?_
  refine s7_77 1 rfl (by decide) rfl ?_
  refine s7_78 ?_
  refine s7_81c (fun h => absurd h (own_ne _)) (fun _ => ?_)
  refine s7_85 ?_
  refine s7_86 ?_
  refine s7_90 ?_
  refine s7_91 rfl ?_
  refine s7_92 ?_
  refine s7_95 ?_
  refine s7_10 ?_
  refine s7_12 ?_
  refine s7_13 rfl ?_
  refine s7_16 ?_
  refine s7_17 1 rfl (by decide) rfl ?_
  refine s7_18 ?_
  refine s7_19 rfl ?_
  refine s7_22 ?_
  refine s7_23 1 rfl (by decide) rfl ?_
  refine s7_24 ?_
  refine s7_25 (fun h => absurd h (by decide)) (fun _ => ?_)
  refine s7_28 ?_
  refine s7_29 rfl ?_
  refine s7_32 ?_
  refine s7_34 2 rfl (by decide) rfl ?_
  refine s7_35 ?_
  refine s7_38c (fun _ => ?_) (fun h => absurd h (by decide))
  refine s7_70 ?_
  refine s7_71 ?_
  refine s7_72 rfl ?_
  refine s7_75 ?_
  refine s7_77 2 rfl (by decide) rfl ?_
  refine s7_78 ?_
  refine s7_81c (fun _ => ?_) (fun h => absurd h (by decide))
  refine s7_89 ?_
  refine s7_90 ?_
  refine s7_91 rfl ?_
  refine s7_92 ?_
  refine s7_95 ?_
  refine s7_10 ?_
  refine s7_12 ?_
  refine s7_13 rfl ?_
  refine s7_16 ?_
  refine s7_17 1 rfl (by decide) rfl ?_
  refine s7_18 ?_
  refine s7_19 rfl ?_
  refine s7_22 ?_
  refine s7_23 1 rfl (by decide) rfl ?_
  refine s7_24 ?_
  refine s7_25 (fun _ => ?_) (fun h => absurd h (by decide))
  refine s7_98 ?_
  exact s7_99 ⟨rfl, rfl⟩
theorem own_r61 (a b c pd : Int32) (w : Int64) : M9 ⟨0, 0, 0, 0⟩ [.ref 2, .int 0, .int 0] [(.inr (.int, [.int 0, .int 1]) : ACell), (.inr (.int, [.int 1, .int 1]) : ACell), (.inl (0, [.ref 3, .ref 4, .ref 0, .ref 5, .long w, .ref 6, .ref 7, .ref 8, .long (a).toInt64]) : ACell), (.inr (.long, [.long 0, .long 0, .long 0, .long 0, .long 0, .long 0, .long 0, .long 0, .long 0, .long 0, .long 0, .long 0, .long 0, .long 0, .long 0, .long 0]) : ACell), (.inr (.int, [.int 0, .int 0, .int 0, .int 0, .int 0, .int 0, .int 0, .int 0, .int 0, .int 0, .int 0, .int 0, .int 0, .int 0, .int 0, .int 0]) : ACell), (.inr (.int, [.int 1, .int 2]) : ACell), (.inr (.int, [.int 0, .int 1]) : ACell), (.inr (.long, [.long (c).toInt64, .long (a).toInt64, .long 9223372036854775807]) : ACell), (.inr (.long, [.long 0, .long 0]) : ACell)] (Is (some (.long (c).toInt64)) [(.inr (.int, [.int 0, .int 1]) : ACell), (.inr (.int, [.int 1, .int 1]) : ACell), (.inl (0, [.ref 3, .ref 4, .ref 0, .ref 5, .long w, .ref 6, .ref 7, .ref 8, .long (a).toInt64]) : ACell), (.inr (.long, [.long 0, .long 0, .long 0, .long 0, .long 0, .long 0, .long 0, .long 0, .long 0, .long 0, .long 0, .long 0, .long 0, .long 0, .long 0, .long 0]) : ACell), (.inr (.int, [.int 0, .int 0, .int 0, .int 0, .int 0, .int 0, .int 0, .int 0, .int 0, .int 0, .int 0, .int 0, .int 0, .int 0, .int 0, .int 0]) : ACell), (.inr (.int, [.int 1, .int 2]) : ACell), (.inr (.int, [.int 0, .int 1]) : ACell), (.inr (.long, [.long (c).toInt64, .long (a).toInt64, .long 9223372036854775807]) : ACell), (.inr (.long, [.long 0, .long 0]) : ACell)]) := by
  refine e9 ?_
  refine s9_0 ?_
  refine s9_1 rfl ?_
  refine s9_4 ?_
  refine s9_5 rfl ?_
  refine s9_8 ?_
  refine s9_9 0 rfl (by decide) rfl ?_
  refine s9_10 ?_
  refine s9_11 ?_
  refine s9_12 0 rfl (by decide) rfl ?_
  exact s9_13 ⟨rfl, rfl⟩
theorem own_r62 (a b c pd : Int32) (w : Int64) : M9 ⟨0, 0, 0, 0⟩ [.ref 2, .int 1, .int 0] [(.inr (.int, [.int 0, .int 1]) : ACell), (.inr (.int, [.int 1, .int 1]) : ACell), (.inl (0, [.ref 3, .ref 4, .ref 0, .ref 5, .long w, .ref 6, .ref 7, .ref 8, .long (a).toInt64]) : ACell), (.inr (.long, [.long 0, .long 0, .long 0, .long 0, .long 0, .long 0, .long 0, .long 0, .long 0, .long 0, .long 0, .long 0, .long 0, .long 0, .long 0, .long 0]) : ACell), (.inr (.int, [.int 0, .int 0, .int 0, .int 0, .int 0, .int 0, .int 0, .int 0, .int 0, .int 0, .int 0, .int 0, .int 0, .int 0, .int 0, .int 0]) : ACell), (.inr (.int, [.int 1, .int 2]) : ACell), (.inr (.int, [.int 0, .int 1]) : ACell), (.inr (.long, [.long (c).toInt64, .long (a).toInt64, .long 9223372036854775807]) : ACell), (.inr (.long, [.long 0, .long 0]) : ACell)] (Is (some (.long (a).toInt64)) [(.inr (.int, [.int 0, .int 1]) : ACell), (.inr (.int, [.int 1, .int 1]) : ACell), (.inl (0, [.ref 3, .ref 4, .ref 0, .ref 5, .long w, .ref 6, .ref 7, .ref 8, .long (a).toInt64]) : ACell), (.inr (.long, [.long 0, .long 0, .long 0, .long 0, .long 0, .long 0, .long 0, .long 0, .long 0, .long 0, .long 0, .long 0, .long 0, .long 0, .long 0, .long 0]) : ACell), (.inr (.int, [.int 0, .int 0, .int 0, .int 0, .int 0, .int 0, .int 0, .int 0, .int 0, .int 0, .int 0, .int 0, .int 0, .int 0, .int 0, .int 0]) : ACell), (.inr (.int, [.int 1, .int 2]) : ACell), (.inr (.int, [.int 0, .int 1]) : ACell), (.inr (.long, [.long (c).toInt64, .long (a).toInt64, .long 9223372036854775807]) : ACell), (.inr (.long, [.long 0, .long 0]) : ACell)]) := by
  refine e9 ?_
  refine s9_0 ?_
  refine s9_1 rfl ?_
  refine s9_4 ?_
  refine s9_5 rfl ?_
  refine s9_8 ?_
  refine s9_9 1 rfl (by decide) rfl ?_
  refine s9_10 ?_
  refine s9_11 ?_
  refine s9_12 1 rfl (by decide) rfl ?_
  exact s9_13 ⟨rfl, rfl⟩
theorem own_r63 (a b c pd : Int32) (w : Int64) : M9 ⟨0, 0, 0, 0⟩ [.ref 2, .int 1, .int 1] [(.inr (.int, [.int 0, .int 1]) : ACell), (.inr (.int, [.int 1, .int 1]) : ACell), (.inl (0, [.ref 3, .ref 4, .ref 0, .ref 5, .long w, .ref 6, .ref 7, .ref 8, .long (a).toInt64]) : ACell), (.inr (.long, [.long 0, .long 0, .long 0, .long 0, .long 0, .long 0, .long 0, .long 0, .long 0, .long 0, .long 0, .long 0, .long 0, .long 0, .long 0, .long 0]) : ACell), (.inr (.int, [.int 0, .int 0, .int 0, .int 0, .int 0, .int 0, .int 0, .int 0, .int 0, .int 0, .int 0, .int 0, .int 0, .int 0, .int 0, .int 0]) : ACell), (.inr (.int, [.int 1, .int 2]) : ACell), (.inr (.int, [.int 0, .int 1]) : ACell), (.inr (.long, [.long (c).toInt64, .long (a).toInt64, .long 9223372036854775807]) : ACell), (.inr (.long, [.long 0, .long 0]) : ACell)] (Is (some (.long 9223372036854775807)) [(.inr (.int, [.int 0, .int 1]) : ACell), (.inr (.int, [.int 1, .int 1]) : ACell), (.inl (0, [.ref 3, .ref 4, .ref 0, .ref 5, .long w, .ref 6, .ref 7, .ref 8, .long (a).toInt64]) : ACell), (.inr (.long, [.long 0, .long 0, .long 0, .long 0, .long 0, .long 0, .long 0, .long 0, .long 0, .long 0, .long 0, .long 0, .long 0, .long 0, .long 0, .long 0]) : ACell), (.inr (.int, [.int 0, .int 0, .int 0, .int 0, .int 0, .int 0, .int 0, .int 0, .int 0, .int 0, .int 0, .int 0, .int 0, .int 0, .int 0, .int 0]) : ACell), (.inr (.int, [.int 1, .int 2]) : ACell), (.inr (.int, [.int 0, .int 1]) : ACell), (.inr (.long, [.long (c).toInt64, .long (a).toInt64, .long 9223372036854775807]) : ACell), (.inr (.long, [.long 0, .long 0]) : ACell)]) := by
  refine e9 ?_
  refine s9_0 ?_
  refine s9_1 rfl ?_
  refine s9_4 ?_
  refine s9_5 rfl ?_
  refine s9_8 ?_
  refine s9_9 1 rfl (by decide) rfl ?_
  refine s9_10 ?_
  refine s9_11 ?_
  refine s9_12 2 rfl (by decide) rfl ?_
  exact s9_13 ⟨rfl, rfl⟩
theorem own_r64 (a b c pd : Int32) (w : Int64) (ha : ¬ w < a.toInt64 - pd.toInt64) (hc : w < c.toInt64 - pd.toInt64) : M7 ⟨0, 0, 0, 0⟩ [.ref 2, .int 1, .int pd] [(.inr (.int, [.int 0, .int 1]) : ACell), (.inr (.int, [.int 1, .int 1]) : ACell), (.inl (0, [.ref 3, .ref 4, .ref 0, .ref 5, .long w, .ref 6, .ref 7, .ref 8, .long (a).toInt64]) : ACell), (.inr (.long, [.long 0, .long 0, .long 0, .long 0, .long 0, .long 0, .long 0, .long 0, .long 0, .long 0, .long 0, .long 0, .long 0, .long 0, .long 0, .long 0]) : ACell), (.inr (.int, [.int 0, .int 0, .int 0, .int 0, .int 0, .int 0, .int 0, .int 0, .int 0, .int 0, .int 0, .int 0, .int 0, .int 0, .int 0, .int 0]) : ACell), (.inr (.int, [.int 1, .int 2]) : ACell), (.inr (.int, [.int 0, .int 1]) : ACell), (.inr (.long, [.long (c).toInt64, .long (a).toInt64, .long 9223372036854775807]) : ACell), (.inr (.long, [.long 0, .long 0]) : ACell)] (Is (some (.int 1)) [(.inr (.int, [.int 0, .int 1]) : ACell), (.inr (.int, [.int 1, .int 1]) : ACell), (.inl (0, [.ref 3, .ref 4, .ref 0, .ref 5, .long w, .ref 6, .ref 7, .ref 8, .long (a).toInt64]) : ACell), (.inr (.long, [.long 0, .long 0, .long 0, .long 0, .long 0, .long 0, .long 0, .long 0, .long 0, .long 0, .long 0, .long 0, .long 0, .long 0, .long 0, .long 0]) : ACell), (.inr (.int, [.int 0, .int 0, .int 0, .int 0, .int 0, .int 0, .int 0, .int 0, .int 0, .int 0, .int 0, .int 0, .int 0, .int 0, .int 0, .int 0]) : ACell), (.inr (.int, [.int 1, .int 2]) : ACell), (.inr (.int, [.int 0, .int 1]) : ACell), (.inr (.long, [.long (c).toInt64, .long (a).toInt64, .long 9223372036854775807]) : ACell), (.inr (.long, [.long 0, .long 0]) : ACell)]) := by
  refine e7 ?_
  refine s7_0 ?_
  refine s7_1 rfl ?_
  refine s7_2 ?_
  refine s7_3 rfl ?_
  refine s7_6 ?_
  refine s7_7 1 rfl (by decide) rfl ?_
  refine s7_8 rfl ?_
  refine s7_10 ?_
  refine s7_12 ?_
  refine s7_13 rfl ?_
  refine s7_16 ?_
  refine s7_17 1 rfl (by decide) rfl ?_
  refine s7_18 ?_
  refine s7_19 rfl ?_
  refine s7_22 ?_
  refine s7_23 1 rfl (by decide) rfl ?_
  refine s7_24 ?_
  refine s7_25 (fun h => absurd h (by decide)) (fun _ => ?_)
  refine s7_28 ?_
  refine s7_29 rfl ?_
  refine s7_32 ?_
  refine s7_34 1 rfl (by decide) rfl ?_
  refine s7_35 ?_
  refine s7_38c (fun h => absurd h (own_ne _)) (fun _ => ?_)
  refine s7_42 ?_
  refine s7_43 rfl ?_
  refine s7_46 ?_
  refine s7_48 1 rfl (by decide) rfl ?_
  refine s7_49 ?_
  refine s7_50 ?_
  refine s7_51 ?_
  refine s7_52 ?_
  refine s7_53 rfl ?_
  refine s7_56c (fun _ => ?_) (fun h => absurd h ha)
  refine s7_70 ?_
  refine s7_71 ?_
  refine s7_72 rfl ?_
  refine s7_75 ?_
  refine s7_77 1 rfl (by decide) rfl ?_
  refine s7_78 ?_
  refine s7_81c (fun h => absurd h (own_ne _)) (fun _ => ?_)
  refine s7_85 ?_
  refine s7_86 ?_
  refine s7_90 ?_
  refine s7_91 rfl ?_
  refine s7_92 ?_
  refine s7_95 ?_
  refine s7_10 ?_
  refine s7_12 ?_
  refine s7_13 rfl ?_
  refine s7_16 ?_
  refine s7_17 1 rfl (by decide) rfl ?_
  refine s7_18 ?_
  refine s7_19 rfl ?_
  refine s7_22 ?_
  refine s7_23 1 rfl (by decide) rfl ?_
  refine s7_24 ?_
  refine s7_25 (fun h => absurd h (by decide)) (fun _ => ?_)
  refine s7_28 ?_
  refine s7_29 rfl ?_
  refine s7_32 ?_
  refine s7_34 2 rfl (by decide) rfl ?_
  refine s7_35 ?_
  refine s7_38c (fun _ => ?_) (fun h => absurd h (by decide))
  refine s7_70 ?_
  refine s7_71 ?_
  refine s7_72 rfl ?_
  refine s7_75 ?_
  refine s7_77 2 rfl (by decide) rfl ?_
  refine s7_78 ?_
  refine s7_81c (fun _ => ?_) (fun h => absurd h (by decide))
  refine s7_89 ?_
  refine s7_90 ?_
  refine s7_91 rfl ?_
  refine s7_92 ?_
  refine s7_95 ?_
  refine s7_10 ?_
  refine s7_12 ?_
  refine s7_13 rfl ?_
  refine s7_16 ?_
  refine s7_17 1 rfl (by decide) rfl ?_
  refine s7_18 ?_
  refine s7_19 rfl ?_
  refine s7_22 ?_
  refine s7_23 1 rfl (by decide) rfl ?_
  refine s7_24 ?_
  refine s7_25 (fun _ => ?_) (fun h => absurd h (by decide))
  refine s7_98 ?_
  exact s7_99 ⟨rfl, rfl⟩
theorem own_r66 (a b c pd : Int32) (w : Int64) : M4 ⟨0, 0, 0, 0⟩ [.ref 2, .int b] [(.inr (.int, [.int 0, .int 1]) : ACell), (.inr (.int, [.int 1, .int 1]) : ACell), (.inl (0, [.ref 3, .ref 4, .ref 0, .ref 5, .long w, .ref 6, .ref 7, .ref 8, .long (a).toInt64]) : ACell), (.inr (.long, [.long 0, .long 0, .long 0, .long 0, .long 0, .long 0, .long 0, .long 0, .long 0, .long 0, .long 0, .long 0, .long 0, .long 0, .long 0, .long 0]) : ACell), (.inr (.int, [.int 0, .int 0, .int 0, .int 0, .int 0, .int 0, .int 0, .int 0, .int 0, .int 0, .int 0, .int 0, .int 0, .int 0, .int 0, .int 0]) : ACell), (.inr (.int, [.int 1, .int 2]) : ACell), (.inr (.int, [.int 0, .int 1]) : ACell), (.inr (.long, [.long 9223372036854775807, .long (a).toInt64, .long 9223372036854775807]) : ACell), (.inr (.long, [.long 0, .long 0]) : ACell)] (Is none [(.inr (.int, [.int 0, .int 1]) : ACell), (.inr (.int, [.int 1, .int 1]) : ACell), (.inl (0, [.ref 3, .ref 4, .ref 0, .ref 5, .long w, .ref 6, .ref 7, .ref 8, .long (b).toInt64]) : ACell), (.inr (.long, [.long 0, .long 0, .long 0, .long 0, .long 0, .long 0, .long 0, .long 0, .long 0, .long 0, .long 0, .long 0, .long 0, .long 0, .long 0, .long 0]) : ACell), (.inr (.int, [.int 0, .int 0, .int 0, .int 0, .int 0, .int 0, .int 0, .int 0, .int 0, .int 0, .int 0, .int 0, .int 0, .int 0, .int 0, .int 0]) : ACell), (.inr (.int, [.int 1, .int 2]) : ACell), (.inr (.int, [.int 0, .int 1]) : ACell), (.inr (.long, [.long 9223372036854775807, .long (a).toInt64, .long 9223372036854775807]) : ACell), (.inr (.long, [.long 0, .long 0]) : ACell)]) := by
  refine e4 ?_
  refine s4_0 ?_
  refine s4_1 ?_
  refine s4_2 ?_
  refine s4_3 rfl ?_
  exact s4_6 ⟨rfl, rfl⟩
theorem own_r67 (a b c pd : Int32) (w : Int64) : M6 ⟨0, 0, 0, 0⟩ [.long 9223372036854775807, .long (b).toInt64] [(.inr (.int, [.int 0, .int 1]) : ACell), (.inr (.int, [.int 1, .int 1]) : ACell), (.inl (0, [.ref 3, .ref 4, .ref 0, .ref 5, .long w, .ref 6, .ref 7, .ref 8, .long (b).toInt64]) : ACell), (.inr (.long, [.long 0, .long 0, .long 0, .long 0, .long 0, .long 0, .long 0, .long 0, .long 0, .long 0, .long 0, .long 0, .long 0, .long 0, .long 0, .long 0]) : ACell), (.inr (.int, [.int 0, .int 0, .int 0, .int 0, .int 0, .int 0, .int 0, .int 0, .int 0, .int 0, .int 0, .int 0, .int 0, .int 0, .int 0, .int 0]) : ACell), (.inr (.int, [.int 1, .int 2]) : ACell), (.inr (.int, [.int 0, .int 1]) : ACell), (.inr (.long, [.long 9223372036854775807, .long (a).toInt64, .long 9223372036854775807]) : ACell), (.inr (.long, [.long 0, .long 0]) : ACell)] (Is (some (.long (b).toInt64)) [(.inr (.int, [.int 0, .int 1]) : ACell), (.inr (.int, [.int 1, .int 1]) : ACell), (.inl (0, [.ref 3, .ref 4, .ref 0, .ref 5, .long w, .ref 6, .ref 7, .ref 8, .long (b).toInt64]) : ACell), (.inr (.long, [.long 0, .long 0, .long 0, .long 0, .long 0, .long 0, .long 0, .long 0, .long 0, .long 0, .long 0, .long 0, .long 0, .long 0, .long 0, .long 0]) : ACell), (.inr (.int, [.int 0, .int 0, .int 0, .int 0, .int 0, .int 0, .int 0, .int 0, .int 0, .int 0, .int 0, .int 0, .int 0, .int 0, .int 0, .int 0]) : ACell), (.inr (.int, [.int 1, .int 2]) : ACell), (.inr (.int, [.int 0, .int 1]) : ACell), (.inr (.long, [.long 9223372036854775807, .long (a).toInt64, .long 9223372036854775807]) : ACell), (.inr (.long, [.long 0, .long 0]) : ACell)]) := by
  refine e6 ?_
  refine s6_0 ?_
  refine s6_1 ?_
  refine s6_2c (fun _ => ?_) (fun h => absurd (own_lt _) h)
  refine s6_10 ?_
  exact s6_11 ⟨rfl, rfl⟩
theorem own_r68 (a b c pd : Int32) (w : Int64) : M5 ⟨1, 0, 0, 17⟩ [.ref 2, .int 1, .int 1, .int (-1)] [(.inr (.int, [.int 0, .int 1]) : ACell), (.inr (.int, [.int 1, .int 1]) : ACell), (.inl (0, [.ref 3, .ref 4, .ref 0, .ref 5, .long w, .ref 6, .ref 7, .ref 8, .long (b).toInt64]) : ACell), (.inr (.long, [.long 0, .long 0, .long 0, .long 0, .long 0, .long 0, .long 0, .long 0, .long 0, .long 0, .long 0, .long 0, .long 0, .long 0, .long 0, .long 0]) : ACell), (.inr (.int, [.int 0, .int 0, .int 0, .int 0, .int 0, .int 0, .int 0, .int 0, .int 0, .int 0, .int 0, .int 0, .int 0, .int 0, .int 0, .int 0]) : ACell), (.inr (.int, [.int 1, .int 2]) : ACell), (.inr (.int, [.int 0, .int 1]) : ACell), (.inr (.long, [.long 9223372036854775807, .long (a).toInt64, .long 9223372036854775807]) : ACell), (.inr (.long, [.long 0, .long 0]) : ACell)] (Is none [(.inr (.int, [.int 0, .int 1]) : ACell), (.inr (.int, [.int 1, .int 1]) : ACell), (.inl (0, [.ref 3, .ref 4, .ref 0, .ref 5, .long w, .ref 6, .ref 7, .ref 8, .long (b).toInt64]) : ACell), (.inr (.long, [.long 0, .long 0, .long 0, .long 0, .long 0, .long 0, .long 0, .long 0, .long 0, .long 0, .long 0, .long 0, .long 0, .long 0, .long 0, .long 0]) : ACell), (.inr (.int, [.int 0, .int 0, .int 0, .int 0, .int 0, .int 0, .int 0, .int 0, .int 0, .int 0, .int 0, .int 0, .int 0, .int 0, .int 0, .int 0]) : ACell), (.inr (.int, [.int 1, .int 2]) : ACell), (.inr (.int, [.int 0, .int 1]) : ACell), (.inr (.long, [.long 9223372036854775807, .long (a).toInt64, .long (b).toInt64]) : ACell), (.inr (.long, [.long 0, .long 0]) : ACell)]) := by
  refine e5 ?_
  refine s5_0 ?_
  refine s5_1 rfl ?_
  refine s5_4 ?_
  refine s5_5 1 rfl (by decide) rfl ?_
  refine s5_6 ?_
  refine s5_7 ?_
  refine s5_8 rfl ?_
  refine s5_10 ?_
  refine s5_11 rfl ?_
  refine s5_14 ?_
  refine s5_16 ?_
  refine s5_17 rfl ?_
  refine s5_20 ?_
  refine s5_22 2 rfl (by decide) rfl ?_
  refine s5_23 ?_
  refine s5_24 ?_
  refine s5_25 (fun h => absurd h (by decide)) (fun _ => ?_)
  refine s5_28 ?_
  refine s5_29 rfl ?_
  refine s5_32 ?_
  refine s5_48 (own_r67 a b c pd w) rfl ?_
  refine s5_51 2 rfl (by decide) rfl ?_
  exact s5_52 ⟨rfl, rfl⟩
theorem own_r69 (a b c pd : Int32) (w : Int64) (ha : ¬ w < a.toInt64 - pd.toInt64) (hb : ¬ w < b.toInt64 - pd.toInt64) : M7 ⟨0, 0, 0, 0⟩ [.ref 2, .int 1, .int pd] [(.inr (.int, [.int 0, .int 1]) : ACell), (.inr (.int, [.int 1, .int 1]) : ACell), (.inl (0, [.ref 3, .ref 4, .ref 0, .ref 5, .long w, .ref 6, .ref 7, .ref 8, .long (b).toInt64]) : ACell), (.inr (.long, [.long 0, .long 0, .long 0, .long 0, .long 0, .long 0, .long 0, .long 0, .long 0, .long 0, .long 0, .long 0, .long 0, .long 0, .long 0, .long 0]) : ACell), (.inr (.int, [.int 0, .int 0, .int 0, .int 0, .int 0, .int 0, .int 0, .int 0, .int 0, .int 0, .int 0, .int 0, .int 0, .int 0, .int 0, .int 0]) : ACell), (.inr (.int, [.int 1, .int 2]) : ACell), (.inr (.int, [.int 0, .int 1]) : ACell), (.inr (.long, [.long 9223372036854775807, .long (a).toInt64, .long (b).toInt64]) : ACell), (.inr (.long, [.long 0, .long 0]) : ACell)] (Is (some (.int 1)) [(.inr (.int, [.int 0, .int 1]) : ACell), (.inr (.int, [.int 1, .int 1]) : ACell), (.inl (0, [.ref 3, .ref 4, .ref 0, .ref 5, .long w, .ref 6, .ref 7, .ref 8, .long (b).toInt64]) : ACell), (.inr (.long, [.long 0, .long 0, .long 0, .long 0, .long 0, .long 0, .long 0, .long 0, .long 0, .long 0, .long 0, .long 0, .long 0, .long 0, .long 0, .long 0]) : ACell), (.inr (.int, [.int 0, .int 0, .int 0, .int 0, .int 0, .int 0, .int 0, .int 0, .int 0, .int 0, .int 0, .int 0, .int 0, .int 0, .int 0, .int 0]) : ACell), (.inr (.int, [.int 1, .int 2]) : ACell), (.inr (.int, [.int 0, .int 1]) : ACell), (.inr (.long, [.long 9223372036854775807, .long (a).toInt64, .long (b).toInt64]) : ACell), (.inr (.long, [.long 0, .long 0]) : ACell)]) := by
  refine e7 ?_
  refine s7_0 ?_
  refine s7_1 rfl ?_
  refine s7_2 ?_
  refine s7_3 rfl ?_
  refine s7_6 ?_
  refine s7_7 1 rfl (by decide) rfl ?_
  refine s7_8 rfl ?_
  refine s7_10 ?_
  refine s7_12 ?_
  refine s7_13 rfl ?_
  refine s7_16 ?_
  refine s7_17 1 rfl (by decide) rfl ?_
  refine s7_18 ?_
  refine s7_19 rfl ?_
  refine s7_22 ?_
  refine s7_23 1 rfl (by decide) rfl ?_
  refine s7_24 ?_
  refine s7_25 (fun h => absurd h (by decide)) (fun _ => ?_)
  refine s7_28 ?_
  refine s7_29 rfl ?_
  refine s7_32 ?_
  refine s7_34 1 rfl (by decide) rfl ?_
  refine s7_35 ?_
  refine s7_38c (fun h => absurd h (own_ne _)) (fun _ => ?_)
  refine s7_42 ?_
  refine s7_43 rfl ?_
  refine s7_46 ?_
  refine s7_48 1 rfl (by decide) rfl ?_
  refine s7_49 ?_
  refine s7_50 ?_
  refine s7_51 ?_
  refine s7_52 ?_
  refine s7_53 rfl ?_
  refine s7_56c (fun _ => ?_) (fun h => absurd h ha)
  refine s7_70 ?_
  refine s7_71 ?_
  refine s7_72 rfl ?_
  refine s7_75 ?_
  refine s7_77 1 rfl (by decide) rfl ?_
  refine s7_78 ?_
  refine s7_81c (fun h => absurd h (own_ne _)) (fun _ => ?_)
  refine s7_85 ?_
  refine s7_86 ?_
  refine s7_90 ?_
  refine s7_91 rfl ?_
  refine s7_92 ?_
  refine s7_95 ?_
  refine s7_10 ?_
  refine s7_12 ?_
  refine s7_13 rfl ?_
  refine s7_16 ?_
  refine s7_17 1 rfl (by decide) rfl ?_
  refine s7_18 ?_
  refine s7_19 rfl ?_
  refine s7_22 ?_
  refine s7_23 1 rfl (by decide) rfl ?_
  refine s7_24 ?_
  refine s7_25 (fun h => absurd h (by decide)) (fun _ => ?_)
  refine s7_28 ?_
  refine s7_29 rfl ?_
  refine s7_32 ?_
  refine s7_34 2 rfl (by decide) rfl ?_
  refine s7_35 ?_
  refine s7_38c (fun h => absurd h (own_ne _)) (fun _ => ?_)
  refine s7_42 ?_
  refine s7_43 rfl ?_
  refine s7_46 ?_
  refine s7_48 2 rfl (by decide) rfl ?_
  refine s7_49 ?_
  refine s7_50 ?_
  refine s7_51 ?_
  refine s7_52 ?_
  refine s7_53 rfl ?_
  refine s7_56c (fun _ => ?_) (fun h => absurd h hb)
  refine s7_70 ?_
  refine s7_71 ?_
  refine s7_72 rfl ?_
  refine s7_75 ?_
  refine s7_77 2 rfl (by decide) rfl ?_
  refine s7_78 ?_
  refine s7_81c (fun h => absurd h (own_ne _)) (fun _ => ?_)
  refine s7_85 ?_
  refine s7_86 ?_
  refine s7_90 ?_
  refine s7_91 rfl ?_
  refine s7_92 ?_
  refine s7_95 ?_
  refine s7_10 ?_
  refine s7_12 ?_
  refine s7_13 rfl ?_
  refine s7_16 ?_
  refine s7_17 1 rfl (by decide) rfl ?_
  refine s7_18 ?_
  refine s7_19 rfl ?_
  refine s7_22 ?_
  refine s7_23 1 rfl (by decide) rfl ?_
  refine s7_24 ?_
  refine s7_25 (fun _ => ?_) (fun h => absurd h (by decide))
  refine s7_98 ?_
  exact s7_99 ⟨rfl, rfl⟩
theorem own_r71 (a b c pd : Int32) (w : Int64) : M9 ⟨0, 0, 0, 0⟩ [.ref 2, .int 0, .int 0] [(.inr (.int, [.int 0, .int 1]) : ACell), (.inr (.int, [.int 1, .int 1]) : ACell), (.inl (0, [.ref 3, .ref 4, .ref 0, .ref 5, .long w, .ref 6, .ref 7, .ref 8, .long (b).toInt64]) : ACell), (.inr (.long, [.long 0, .long 0, .long 0, .long 0, .long 0, .long 0, .long 0, .long 0, .long 0, .long 0, .long 0, .long 0, .long 0, .long 0, .long 0, .long 0]) : ACell), (.inr (.int, [.int 0, .int 0, .int 0, .int 0, .int 0, .int 0, .int 0, .int 0, .int 0, .int 0, .int 0, .int 0, .int 0, .int 0, .int 0, .int 0]) : ACell), (.inr (.int, [.int 1, .int 2]) : ACell), (.inr (.int, [.int 0, .int 1]) : ACell), (.inr (.long, [.long 9223372036854775807, .long (a).toInt64, .long (b).toInt64]) : ACell), (.inr (.long, [.long 0, .long 0]) : ACell)] (Is (some (.long 9223372036854775807)) [(.inr (.int, [.int 0, .int 1]) : ACell), (.inr (.int, [.int 1, .int 1]) : ACell), (.inl (0, [.ref 3, .ref 4, .ref 0, .ref 5, .long w, .ref 6, .ref 7, .ref 8, .long (b).toInt64]) : ACell), (.inr (.long, [.long 0, .long 0, .long 0, .long 0, .long 0, .long 0, .long 0, .long 0, .long 0, .long 0, .long 0, .long 0, .long 0, .long 0, .long 0, .long 0]) : ACell), (.inr (.int, [.int 0, .int 0, .int 0, .int 0, .int 0, .int 0, .int 0, .int 0, .int 0, .int 0, .int 0, .int 0, .int 0, .int 0, .int 0, .int 0]) : ACell), (.inr (.int, [.int 1, .int 2]) : ACell), (.inr (.int, [.int 0, .int 1]) : ACell), (.inr (.long, [.long 9223372036854775807, .long (a).toInt64, .long (b).toInt64]) : ACell), (.inr (.long, [.long 0, .long 0]) : ACell)]) := by
  refine e9 ?_
  refine s9_0 ?_
  refine s9_1 rfl ?_
  refine s9_4 ?_
  refine s9_5 rfl ?_
  refine s9_8 ?_
  refine s9_9 0 rfl (by decide) rfl ?_
  refine s9_10 ?_
  refine s9_11 ?_
  refine s9_12 0 rfl (by decide) rfl ?_
  exact s9_13 ⟨rfl, rfl⟩
theorem own_r72 (a b c pd : Int32) (w : Int64) : M9 ⟨0, 0, 0, 0⟩ [.ref 2, .int 1, .int 0] [(.inr (.int, [.int 0, .int 1]) : ACell), (.inr (.int, [.int 1, .int 1]) : ACell), (.inl (0, [.ref 3, .ref 4, .ref 0, .ref 5, .long w, .ref 6, .ref 7, .ref 8, .long (b).toInt64]) : ACell), (.inr (.long, [.long 0, .long 0, .long 0, .long 0, .long 0, .long 0, .long 0, .long 0, .long 0, .long 0, .long 0, .long 0, .long 0, .long 0, .long 0, .long 0]) : ACell), (.inr (.int, [.int 0, .int 0, .int 0, .int 0, .int 0, .int 0, .int 0, .int 0, .int 0, .int 0, .int 0, .int 0, .int 0, .int 0, .int 0, .int 0]) : ACell), (.inr (.int, [.int 1, .int 2]) : ACell), (.inr (.int, [.int 0, .int 1]) : ACell), (.inr (.long, [.long 9223372036854775807, .long (a).toInt64, .long (b).toInt64]) : ACell), (.inr (.long, [.long 0, .long 0]) : ACell)] (Is (some (.long (a).toInt64)) [(.inr (.int, [.int 0, .int 1]) : ACell), (.inr (.int, [.int 1, .int 1]) : ACell), (.inl (0, [.ref 3, .ref 4, .ref 0, .ref 5, .long w, .ref 6, .ref 7, .ref 8, .long (b).toInt64]) : ACell), (.inr (.long, [.long 0, .long 0, .long 0, .long 0, .long 0, .long 0, .long 0, .long 0, .long 0, .long 0, .long 0, .long 0, .long 0, .long 0, .long 0, .long 0]) : ACell), (.inr (.int, [.int 0, .int 0, .int 0, .int 0, .int 0, .int 0, .int 0, .int 0, .int 0, .int 0, .int 0, .int 0, .int 0, .int 0, .int 0, .int 0]) : ACell), (.inr (.int, [.int 1, .int 2]) : ACell), (.inr (.int, [.int 0, .int 1]) : ACell), (.inr (.long, [.long 9223372036854775807, .long (a).toInt64, .long (b).toInt64]) : ACell), (.inr (.long, [.long 0, .long 0]) : ACell)]) := by
  refine e9 ?_
  refine s9_0 ?_
  refine s9_1 rfl ?_
  refine s9_4 ?_
  refine s9_5 rfl ?_
  refine s9_8 ?_
  refine s9_9 1 rfl (by decide) rfl ?_
  refine s9_10 ?_
  refine s9_11 ?_
  refine s9_12 1 rfl (by decide) rfl ?_
  exact s9_13 ⟨rfl, rfl⟩
theorem own_r73 (a b c pd : Int32) (w : Int64) : M9 ⟨0, 0, 0, 0⟩ [.ref 2, .int 1, .int 1] [(.inr (.int, [.int 0, .int 1]) : ACell), (.inr (.int, [.int 1, .int 1]) : ACell), (.inl (0, [.ref 3, .ref 4, .ref 0, .ref 5, .long w, .ref 6, .ref 7, .ref 8, .long (b).toInt64]) : ACell), (.inr (.long, [.long 0, .long 0, .long 0, .long 0, .long 0, .long 0, .long 0, .long 0, .long 0, .long 0, .long 0, .long 0, .long 0, .long 0, .long 0, .long 0]) : ACell), (.inr (.int, [.int 0, .int 0, .int 0, .int 0, .int 0, .int 0, .int 0, .int 0, .int 0, .int 0, .int 0, .int 0, .int 0, .int 0, .int 0, .int 0]) : ACell), (.inr (.int, [.int 1, .int 2]) : ACell), (.inr (.int, [.int 0, .int 1]) : ACell), (.inr (.long, [.long 9223372036854775807, .long (a).toInt64, .long (b).toInt64]) : ACell), (.inr (.long, [.long 0, .long 0]) : ACell)] (Is (some (.long (b).toInt64)) [(.inr (.int, [.int 0, .int 1]) : ACell), (.inr (.int, [.int 1, .int 1]) : ACell), (.inl (0, [.ref 3, .ref 4, .ref 0, .ref 5, .long w, .ref 6, .ref 7, .ref 8, .long (b).toInt64]) : ACell), (.inr (.long, [.long 0, .long 0, .long 0, .long 0, .long 0, .long 0, .long 0, .long 0, .long 0, .long 0, .long 0, .long 0, .long 0, .long 0, .long 0, .long 0]) : ACell), (.inr (.int, [.int 0, .int 0, .int 0, .int 0, .int 0, .int 0, .int 0, .int 0, .int 0, .int 0, .int 0, .int 0, .int 0, .int 0, .int 0, .int 0]) : ACell), (.inr (.int, [.int 1, .int 2]) : ACell), (.inr (.int, [.int 0, .int 1]) : ACell), (.inr (.long, [.long 9223372036854775807, .long (a).toInt64, .long (b).toInt64]) : ACell), (.inr (.long, [.long 0, .long 0]) : ACell)]) := by
  refine e9 ?_
  refine s9_0 ?_
  refine s9_1 rfl ?_
  refine s9_4 ?_
  refine s9_5 rfl ?_
  refine s9_8 ?_
  refine s9_9 1 rfl (by decide) rfl ?_
  refine s9_10 ?_
  refine s9_11 ?_
  refine s9_12 2 rfl (by decide) rfl ?_
  exact s9_13 ⟨rfl, rfl⟩
theorem own_r74 (a b c pd : Int32) (w : Int64) : M4 ⟨0, 0, 0, 0⟩ [.ref 2, .int b] [(.inr (.int, [.int 0, .int 1]) : ACell), (.inr (.int, [.int 1, .int 1]) : ACell), (.inl (0, [.ref 3, .ref 4, .ref 0, .ref 5, .long w, .ref 6, .ref 7, .ref 8, .long (a).toInt64]) : ACell), (.inr (.long, [.long 0, .long 0, .long 0, .long 0, .long 0, .long 0, .long 0, .long 0, .long 0, .long 0, .long 0, .long 0, .long 0, .long 0, .long 0, .long 0]) : ACell), (.inr (.int, [.int 0, .int 0, .int 0, .int 0, .int 0, .int 0, .int 0, .int 0, .int 0, .int 0, .int 0, .int 0, .int 0, .int 0, .int 0, .int 0]) : ACell), (.inr (.int, [.int 1, .int 2]) : ACell), (.inr (.int, [.int 0, .int 1]) : ACell), (.inr (.long, [.long (c).toInt64, .long (a).toInt64, .long 9223372036854775807]) : ACell), (.inr (.long, [.long 0, .long 0]) : ACell)] (Is none [(.inr (.int, [.int 0, .int 1]) : ACell), (.inr (.int, [.int 1, .int 1]) : ACell), (.inl (0, [.ref 3, .ref 4, .ref 0, .ref 5, .long w, .ref 6, .ref 7, .ref 8, .long (b).toInt64]) : ACell), (.inr (.long, [.long 0, .long 0, .long 0, .long 0, .long 0, .long 0, .long 0, .long 0, .long 0, .long 0, .long 0, .long 0, .long 0, .long 0, .long 0, .long 0]) : ACell), (.inr (.int, [.int 0, .int 0, .int 0, .int 0, .int 0, .int 0, .int 0, .int 0, .int 0, .int 0, .int 0, .int 0, .int 0, .int 0, .int 0, .int 0]) : ACell), (.inr (.int, [.int 1, .int 2]) : ACell), (.inr (.int, [.int 0, .int 1]) : ACell), (.inr (.long, [.long (c).toInt64, .long (a).toInt64, .long 9223372036854775807]) : ACell), (.inr (.long, [.long 0, .long 0]) : ACell)]) := by
  refine e4 ?_
  refine s4_0 ?_
  refine s4_1 ?_
  refine s4_2 ?_
  refine s4_3 rfl ?_
  exact s4_6 ⟨rfl, rfl⟩
theorem own_r75 (a b c pd : Int32) (w : Int64) : M6 ⟨0, 0, 0, 0⟩ [.long 9223372036854775807, .long (b).toInt64] [(.inr (.int, [.int 0, .int 1]) : ACell), (.inr (.int, [.int 1, .int 1]) : ACell), (.inl (0, [.ref 3, .ref 4, .ref 0, .ref 5, .long w, .ref 6, .ref 7, .ref 8, .long (b).toInt64]) : ACell), (.inr (.long, [.long 0, .long 0, .long 0, .long 0, .long 0, .long 0, .long 0, .long 0, .long 0, .long 0, .long 0, .long 0, .long 0, .long 0, .long 0, .long 0]) : ACell), (.inr (.int, [.int 0, .int 0, .int 0, .int 0, .int 0, .int 0, .int 0, .int 0, .int 0, .int 0, .int 0, .int 0, .int 0, .int 0, .int 0, .int 0]) : ACell), (.inr (.int, [.int 1, .int 2]) : ACell), (.inr (.int, [.int 0, .int 1]) : ACell), (.inr (.long, [.long (c).toInt64, .long (a).toInt64, .long 9223372036854775807]) : ACell), (.inr (.long, [.long 0, .long 0]) : ACell)] (Is (some (.long (b).toInt64)) [(.inr (.int, [.int 0, .int 1]) : ACell), (.inr (.int, [.int 1, .int 1]) : ACell), (.inl (0, [.ref 3, .ref 4, .ref 0, .ref 5, .long w, .ref 6, .ref 7, .ref 8, .long (b).toInt64]) : ACell), (.inr (.long, [.long 0, .long 0, .long 0, .long 0, .long 0, .long 0, .long 0, .long 0, .long 0, .long 0, .long 0, .long 0, .long 0, .long 0, .long 0, .long 0]) : ACell), (.inr (.int, [.int 0, .int 0, .int 0, .int 0, .int 0, .int 0, .int 0, .int 0, .int 0, .int 0, .int 0, .int 0, .int 0, .int 0, .int 0, .int 0]) : ACell), (.inr (.int, [.int 1, .int 2]) : ACell), (.inr (.int, [.int 0, .int 1]) : ACell), (.inr (.long, [.long (c).toInt64, .long (a).toInt64, .long 9223372036854775807]) : ACell), (.inr (.long, [.long 0, .long 0]) : ACell)]) := by
  refine e6 ?_
  refine s6_0 ?_
  refine s6_1 ?_
  refine s6_2c (fun _ => ?_) (fun h => absurd (own_lt _) h)
  refine s6_10 ?_
  exact s6_11 ⟨rfl, rfl⟩
theorem own_r76 (a b c pd : Int32) (w : Int64) : M5 ⟨1, 0, 0, 17⟩ [.ref 2, .int 1, .int 1, .int (-1)] [(.inr (.int, [.int 0, .int 1]) : ACell), (.inr (.int, [.int 1, .int 1]) : ACell), (.inl (0, [.ref 3, .ref 4, .ref 0, .ref 5, .long w, .ref 6, .ref 7, .ref 8, .long (b).toInt64]) : ACell), (.inr (.long, [.long 0, .long 0, .long 0, .long 0, .long 0, .long 0, .long 0, .long 0, .long 0, .long 0, .long 0, .long 0, .long 0, .long 0, .long 0, .long 0]) : ACell), (.inr (.int, [.int 0, .int 0, .int 0, .int 0, .int 0, .int 0, .int 0, .int 0, .int 0, .int 0, .int 0, .int 0, .int 0, .int 0, .int 0, .int 0]) : ACell), (.inr (.int, [.int 1, .int 2]) : ACell), (.inr (.int, [.int 0, .int 1]) : ACell), (.inr (.long, [.long (c).toInt64, .long (a).toInt64, .long 9223372036854775807]) : ACell), (.inr (.long, [.long 0, .long 0]) : ACell)] (Is none [(.inr (.int, [.int 0, .int 1]) : ACell), (.inr (.int, [.int 1, .int 1]) : ACell), (.inl (0, [.ref 3, .ref 4, .ref 0, .ref 5, .long w, .ref 6, .ref 7, .ref 8, .long (b).toInt64]) : ACell), (.inr (.long, [.long 0, .long 0, .long 0, .long 0, .long 0, .long 0, .long 0, .long 0, .long 0, .long 0, .long 0, .long 0, .long 0, .long 0, .long 0, .long 0]) : ACell), (.inr (.int, [.int 0, .int 0, .int 0, .int 0, .int 0, .int 0, .int 0, .int 0, .int 0, .int 0, .int 0, .int 0, .int 0, .int 0, .int 0, .int 0]) : ACell), (.inr (.int, [.int 1, .int 2]) : ACell), (.inr (.int, [.int 0, .int 1]) : ACell), (.inr (.long, [.long (c).toInt64, .long (a).toInt64, .long (b).toInt64]) : ACell), (.inr (.long, [.long 0, .long 0]) : ACell)]) := by
  refine e5 ?_
  refine s5_0 ?_
  refine s5_1 rfl ?_
  refine s5_4 ?_
  refine s5_5 1 rfl (by decide) rfl ?_
  refine s5_6 ?_
  refine s5_7 ?_
  refine s5_8 rfl ?_
  refine s5_10 ?_
  refine s5_11 rfl ?_
  refine s5_14 ?_
  refine s5_16 ?_
  refine s5_17 rfl ?_
  refine s5_20 ?_
  refine s5_22 2 rfl (by decide) rfl ?_
  refine s5_23 ?_
  refine s5_24 ?_
  refine s5_25 (fun h => absurd h (by decide)) (fun _ => ?_)
  refine s5_28 ?_
  refine s5_29 rfl ?_
  refine s5_32 ?_
  refine s5_48 (own_r75 a b c pd w) rfl ?_
  refine s5_51 2 rfl (by decide) rfl ?_
  exact s5_52 ⟨rfl, rfl⟩
theorem own_r77 (a b c pd : Int32) (w : Int64) (ha : ¬ w < a.toInt64 - pd.toInt64) (hb : ¬ w < b.toInt64 - pd.toInt64) (hc : ¬ w < c.toInt64 - pd.toInt64) : M7 ⟨0, 0, 0, 0⟩ [.ref 2, .int 1, .int pd] [(.inr (.int, [.int 0, .int 1]) : ACell), (.inr (.int, [.int 1, .int 1]) : ACell), (.inl (0, [.ref 3, .ref 4, .ref 0, .ref 5, .long w, .ref 6, .ref 7, .ref 8, .long (b).toInt64]) : ACell), (.inr (.long, [.long 0, .long 0, .long 0, .long 0, .long 0, .long 0, .long 0, .long 0, .long 0, .long 0, .long 0, .long 0, .long 0, .long 0, .long 0, .long 0]) : ACell), (.inr (.int, [.int 0, .int 0, .int 0, .int 0, .int 0, .int 0, .int 0, .int 0, .int 0, .int 0, .int 0, .int 0, .int 0, .int 0, .int 0, .int 0]) : ACell), (.inr (.int, [.int 1, .int 2]) : ACell), (.inr (.int, [.int 0, .int 1]) : ACell), (.inr (.long, [.long (c).toInt64, .long (a).toInt64, .long (b).toInt64]) : ACell), (.inr (.long, [.long 0, .long 0]) : ACell)] (Is (some (.int 1)) [(.inr (.int, [.int 0, .int 1]) : ACell), (.inr (.int, [.int 1, .int 1]) : ACell), (.inl (0, [.ref 3, .ref 4, .ref 0, .ref 5, .long w, .ref 6, .ref 7, .ref 8, .long (b).toInt64]) : ACell), (.inr (.long, [.long 0, .long 0, .long 0, .long 0, .long 0, .long 0, .long 0, .long 0, .long 0, .long 0, .long 0, .long 0, .long 0, .long 0, .long 0, .long 0]) : ACell), (.inr (.int, [.int 0, .int 0, .int 0, .int 0, .int 0, .int 0, .int 0, .int 0, .int 0, .int 0, .int 0, .int 0, .int 0, .int 0, .int 0, .int 0]) : ACell), (.inr (.int, [.int 1, .int 2]) : ACell), (.inr (.int, [.int 0, .int 1]) : ACell), (.inr (.long, [.long (c).toInt64, .long (a).toInt64, .long (b).toInt64]) : ACell), (.inr (.long, [.long 0, .long 0]) : ACell)]) := by
  refine e7 ?_
  refine s7_0 ?_
  refine s7_1 rfl ?_
  refine s7_2 ?_
  refine s7_3 rfl ?_
  refine s7_6 ?_
  refine s7_7 1 rfl (by decide) rfl ?_
  refine s7_8 rfl ?_
  refine s7_10 ?_
  refine s7_12 ?_
  refine s7_13 rfl ?_
  refine s7_16 ?_
  refine s7_17 1 rfl (by decide) rfl ?_
  refine s7_18 ?_
  refine s7_19 rfl ?_
  refine s7_22 ?_
  refine s7_23 1 rfl (by decide) rfl ?_
  refine s7_24 ?_
  refine s7_25 (fun h => absurd h (by decide)) (fun _ => ?_)
  refine s7_28 ?_
  refine s7_29 rfl ?_
  refine s7_32 ?_
  refine s7_34 1 rfl (by decide) rfl ?_
  refine s7_35 ?_
  refine s7_38c (fun h => absurd h (own_ne _)) (fun _ => ?_)
  refine s7_42 ?_
  refine s7_43 rfl ?_
  refine s7_46 ?_
  refine s7_48 1 rfl (by decide) rfl ?_
  refine s7_49 ?_
  refine s7_50 ?_
  refine s7_51 ?_
  refine s7_52 ?_
  refine s7_53 rfl ?_
  refine s7_56c (fun _ => ?_) (fun h => absurd h ha)
  refine s7_70 ?_
  refine s7_71 ?_
  refine s7_72 rfl ?_
  refine s7_75 ?_
  refine s7_77 1 rfl (by decide) rfl ?_
  refine s7_78 ?_
  refine s7_81c (fun h => absurd h (own_ne _)) (fun _ => ?_)
  refine s7_85 ?_
  refine s7_86 ?_
  refine s7_90 ?_
  refine s7_91 rfl ?_
  refine s7_92 ?_
  refine s7_95 ?_
  refine s7_10 ?_
  refine s7_12 ?_
  refine s7_13 rfl ?_
  refine s7_16 ?_
  refine s7_17 1 rfl (by decide) rfl ?_
  refine s7_18 ?_
  refine s7_19 rfl ?_
  refine s7_22 ?_
  refine s7_23 1 rfl (by decide) rfl ?_
  refine s7_24 ?_
  refine s7_25 (fun h => absurd h (by decide)) (fun _ => ?_)
  refine s7_28 ?_
  refine s7_29 rfl ?_
  refine s7_32 ?_
  refine s7_34 2 rfl (by decide) rfl ?_
  refine s7_35 ?_
  refine s7_38c (fun h => absurd h (own_ne _)) (fun _ => ?_)
  refine s7_42 ?_
  refine s7_43 rfl ?_
  refine s7_46 ?_
  refine s7_48 2 rfl (by decide) rfl ?_
  refine s7_49 ?_
  refine s7_50 ?_
  refine s7_51 ?_
  refine s7_52 ?_
  refine s7_53 rfl ?_
  refine s7_56c (fun _ => ?_) (fun h => absurd h hb)
  refine s7_70 ?_
  refine s7_71 ?_
  refine s7_72 rfl ?_
  refine s7_75 ?_
  refine s7_77 2 rfl (by decide) rfl ?_
  refine s7_78 ?_
  refine s7_81c (fun h => absurd h (own_ne _)) (fun _ => ?_)
  refine s7_85 ?_
  refine s7_86 ?_
  refine s7_90 ?_
  refine s7_91 rfl ?_
  refine s7_92 ?_
  refine s7_95 ?_
  refine s7_10 ?_
  refine s7_12 ?_
  refine s7_13 rfl ?_
  refine s7_16 ?_
  refine s7_17 1 rfl (by decide) rfl ?_
  refine s7_18 ?_
  refine s7_19 rfl ?_
  refine s7_22 ?_
  refine s7_23 1 rfl (by decide) rfl ?_
  refine s7_24 ?_
  refine s7_25 (fun _ => ?_) (fun h => absurd h (by decide))
  refine s7_98 ?_
  exact s7_99 ⟨rfl, rfl⟩
theorem own_r79 (a b c pd : Int32) (w : Int64) : M9 ⟨0, 0, 0, 0⟩ [.ref 2, .int 0, .int 0] [(.inr (.int, [.int 0, .int 1]) : ACell), (.inr (.int, [.int 1, .int 1]) : ACell), (.inl (0, [.ref 3, .ref 4, .ref 0, .ref 5, .long w, .ref 6, .ref 7, .ref 8, .long (b).toInt64]) : ACell), (.inr (.long, [.long 0, .long 0, .long 0, .long 0, .long 0, .long 0, .long 0, .long 0, .long 0, .long 0, .long 0, .long 0, .long 0, .long 0, .long 0, .long 0]) : ACell), (.inr (.int, [.int 0, .int 0, .int 0, .int 0, .int 0, .int 0, .int 0, .int 0, .int 0, .int 0, .int 0, .int 0, .int 0, .int 0, .int 0, .int 0]) : ACell), (.inr (.int, [.int 1, .int 2]) : ACell), (.inr (.int, [.int 0, .int 1]) : ACell), (.inr (.long, [.long (c).toInt64, .long (a).toInt64, .long (b).toInt64]) : ACell), (.inr (.long, [.long 0, .long 0]) : ACell)] (Is (some (.long (c).toInt64)) [(.inr (.int, [.int 0, .int 1]) : ACell), (.inr (.int, [.int 1, .int 1]) : ACell), (.inl (0, [.ref 3, .ref 4, .ref 0, .ref 5, .long w, .ref 6, .ref 7, .ref 8, .long (b).toInt64]) : ACell), (.inr (.long, [.long 0, .long 0, .long 0, .long 0, .long 0, .long 0, .long 0, .long 0, .long 0, .long 0, .long 0, .long 0, .long 0, .long 0, .long 0, .long 0]) : ACell), (.inr (.int, [.int 0, .int 0, .int 0, .int 0, .int 0, .int 0, .int 0, .int 0, .int 0, .int 0, .int 0, .int 0, .int 0, .int 0, .int 0, .int 0]) : ACell), (.inr (.int, [.int 1, .int 2]) : ACell), (.inr (.int, [.int 0, .int 1]) : ACell), (.inr (.long, [.long (c).toInt64, .long (a).toInt64, .long (b).toInt64]) : ACell), (.inr (.long, [.long 0, .long 0]) : ACell)]) := by
  refine e9 ?_
  refine s9_0 ?_
  refine s9_1 rfl ?_
  refine s9_4 ?_
  refine s9_5 rfl ?_
  refine s9_8 ?_
  refine s9_9 0 rfl (by decide) rfl ?_
  refine s9_10 ?_
  refine s9_11 ?_
  refine s9_12 0 rfl (by decide) rfl ?_
  exact s9_13 ⟨rfl, rfl⟩
theorem own_r80 (a b c pd : Int32) (w : Int64) : M9 ⟨0, 0, 0, 0⟩ [.ref 2, .int 1, .int 0] [(.inr (.int, [.int 0, .int 1]) : ACell), (.inr (.int, [.int 1, .int 1]) : ACell), (.inl (0, [.ref 3, .ref 4, .ref 0, .ref 5, .long w, .ref 6, .ref 7, .ref 8, .long (b).toInt64]) : ACell), (.inr (.long, [.long 0, .long 0, .long 0, .long 0, .long 0, .long 0, .long 0, .long 0, .long 0, .long 0, .long 0, .long 0, .long 0, .long 0, .long 0, .long 0]) : ACell), (.inr (.int, [.int 0, .int 0, .int 0, .int 0, .int 0, .int 0, .int 0, .int 0, .int 0, .int 0, .int 0, .int 0, .int 0, .int 0, .int 0, .int 0]) : ACell), (.inr (.int, [.int 1, .int 2]) : ACell), (.inr (.int, [.int 0, .int 1]) : ACell), (.inr (.long, [.long (c).toInt64, .long (a).toInt64, .long (b).toInt64]) : ACell), (.inr (.long, [.long 0, .long 0]) : ACell)] (Is (some (.long (a).toInt64)) [(.inr (.int, [.int 0, .int 1]) : ACell), (.inr (.int, [.int 1, .int 1]) : ACell), (.inl (0, [.ref 3, .ref 4, .ref 0, .ref 5, .long w, .ref 6, .ref 7, .ref 8, .long (b).toInt64]) : ACell), (.inr (.long, [.long 0, .long 0, .long 0, .long 0, .long 0, .long 0, .long 0, .long 0, .long 0, .long 0, .long 0, .long 0, .long 0, .long 0, .long 0, .long 0]) : ACell), (.inr (.int, [.int 0, .int 0, .int 0, .int 0, .int 0, .int 0, .int 0, .int 0, .int 0, .int 0, .int 0, .int 0, .int 0, .int 0, .int 0, .int 0]) : ACell), (.inr (.int, [.int 1, .int 2]) : ACell), (.inr (.int, [.int 0, .int 1]) : ACell), (.inr (.long, [.long (c).toInt64, .long (a).toInt64, .long (b).toInt64]) : ACell), (.inr (.long, [.long 0, .long 0]) : ACell)]) := by
  refine e9 ?_
  refine s9_0 ?_
  refine s9_1 rfl ?_
  refine s9_4 ?_
  refine s9_5 rfl ?_
  refine s9_8 ?_
  refine s9_9 1 rfl (by decide) rfl ?_
  refine s9_10 ?_
  refine s9_11 ?_
  refine s9_12 1 rfl (by decide) rfl ?_
  exact s9_13 ⟨rfl, rfl⟩
theorem own_r81 (a b c pd : Int32) (w : Int64) : M9 ⟨0, 0, 0, 0⟩ [.ref 2, .int 1, .int 1] [(.inr (.int, [.int 0, .int 1]) : ACell), (.inr (.int, [.int 1, .int 1]) : ACell), (.inl (0, [.ref 3, .ref 4, .ref 0, .ref 5, .long w, .ref 6, .ref 7, .ref 8, .long (b).toInt64]) : ACell), (.inr (.long, [.long 0, .long 0, .long 0, .long 0, .long 0, .long 0, .long 0, .long 0, .long 0, .long 0, .long 0, .long 0, .long 0, .long 0, .long 0, .long 0]) : ACell), (.inr (.int, [.int 0, .int 0, .int 0, .int 0, .int 0, .int 0, .int 0, .int 0, .int 0, .int 0, .int 0, .int 0, .int 0, .int 0, .int 0, .int 0]) : ACell), (.inr (.int, [.int 1, .int 2]) : ACell), (.inr (.int, [.int 0, .int 1]) : ACell), (.inr (.long, [.long (c).toInt64, .long (a).toInt64, .long (b).toInt64]) : ACell), (.inr (.long, [.long 0, .long 0]) : ACell)] (Is (some (.long (b).toInt64)) [(.inr (.int, [.int 0, .int 1]) : ACell), (.inr (.int, [.int 1, .int 1]) : ACell), (.inl (0, [.ref 3, .ref 4, .ref 0, .ref 5, .long w, .ref 6, .ref 7, .ref 8, .long (b).toInt64]) : ACell), (.inr (.long, [.long 0, .long 0, .long 0, .long 0, .long 0, .long 0, .long 0, .long 0, .long 0, .long 0, .long 0, .long 0, .long 0, .long 0, .long 0, .long 0]) : ACell), (.inr (.int, [.int 0, .int 0, .int 0, .int 0, .int 0, .int 0, .int 0, .int 0, .int 0, .int 0, .int 0, .int 0, .int 0, .int 0, .int 0, .int 0]) : ACell), (.inr (.int, [.int 1, .int 2]) : ACell), (.inr (.int, [.int 0, .int 1]) : ACell), (.inr (.long, [.long (c).toInt64, .long (a).toInt64, .long (b).toInt64]) : ACell), (.inr (.long, [.long 0, .long 0]) : ACell)]) := by
  refine e9 ?_
  refine s9_0 ?_
  refine s9_1 rfl ?_
  refine s9_4 ?_
  refine s9_5 rfl ?_
  refine s9_8 ?_
  refine s9_9 1 rfl (by decide) rfl ?_
  refine s9_10 ?_
  refine s9_11 ?_
  refine s9_12 2 rfl (by decide) rfl ?_
  exact s9_13 ⟨rfl, rfl⟩
theorem own_r82 (a b c pd : Int32) (w : Int64) (ha : ¬ w < a.toInt64 - pd.toInt64) (hb : ¬ w < b.toInt64 - pd.toInt64) (hc : w < c.toInt64 - pd.toInt64) : M7 ⟨0, 0, 0, 0⟩ [.ref 2, .int 1, .int pd] [(.inr (.int, [.int 0, .int 1]) : ACell), (.inr (.int, [.int 1, .int 1]) : ACell), (.inl (0, [.ref 3, .ref 4, .ref 0, .ref 5, .long w, .ref 6, .ref 7, .ref 8, .long (b).toInt64]) : ACell), (.inr (.long, [.long 0, .long 0, .long 0, .long 0, .long 0, .long 0, .long 0, .long 0, .long 0, .long 0, .long 0, .long 0, .long 0, .long 0, .long 0, .long 0]) : ACell), (.inr (.int, [.int 0, .int 0, .int 0, .int 0, .int 0, .int 0, .int 0, .int 0, .int 0, .int 0, .int 0, .int 0, .int 0, .int 0, .int 0, .int 0]) : ACell), (.inr (.int, [.int 1, .int 2]) : ACell), (.inr (.int, [.int 0, .int 1]) : ACell), (.inr (.long, [.long (c).toInt64, .long (a).toInt64, .long (b).toInt64]) : ACell), (.inr (.long, [.long 0, .long 0]) : ACell)] (Is (some (.int 1)) [(.inr (.int, [.int 0, .int 1]) : ACell), (.inr (.int, [.int 1, .int 1]) : ACell), (.inl (0, [.ref 3, .ref 4, .ref 0, .ref 5, .long w, .ref 6, .ref 7, .ref 8, .long (b).toInt64]) : ACell), (.inr (.long, [.long 0, .long 0, .long 0, .long 0, .long 0, .long 0, .long 0, .long 0, .long 0, .long 0, .long 0, .long 0, .long 0, .long 0, .long 0, .long 0]) : ACell), (.inr (.int, [.int 0, .int 0, .int 0, .int 0, .int 0, .int 0, .int 0, .int 0, .int 0, .int 0, .int 0, .int 0, .int 0, .int 0, .int 0, .int 0]) : ACell), (.inr (.int, [.int 1, .int 2]) : ACell), (.inr (.int, [.int 0, .int 1]) : ACell), (.inr (.long, [.long (c).toInt64, .long (a).toInt64, .long (b).toInt64]) : ACell), (.inr (.long, [.long 0, .long 0]) : ACell)]) := by
  refine e7 ?_
  refine s7_0 ?_
  refine s7_1 rfl ?_
  refine s7_2 ?_
  refine s7_3 rfl ?_
  refine s7_6 ?_
  refine s7_7 1 rfl (by decide) rfl ?_
  refine s7_8 rfl ?_
  refine s7_10 ?_
  refine s7_12 ?_
  refine s7_13 rfl ?_
  refine s7_16 ?_
  refine s7_17 1 rfl (by decide) rfl ?_
  refine s7_18 ?_
  refine s7_19 rfl ?_
  refine s7_22 ?_
  refine s7_23 1 rfl (by decide) rfl ?_
  refine s7_24 ?_
  refine s7_25 (fun h => absurd h (by decide)) (fun _ => ?_)
  refine s7_28 ?_
  refine s7_29 rfl ?_
  refine s7_32 ?_
  refine s7_34 1 rfl (by decide) rfl ?_
  refine s7_35 ?_
  refine s7_38c (fun h => absurd h (own_ne _)) (fun _ => ?_)
  refine s7_42 ?_
  refine s7_43 rfl ?_
  refine s7_46 ?_
  refine s7_48 1 rfl (by decide) rfl ?_
  refine s7_49 ?_
  refine s7_50 ?_
  refine s7_51 ?_
  refine s7_52 ?_
  refine s7_53 rfl ?_
  refine s7_56c (fun _ => ?_) (fun h => absurd h ha)
  refine s7_70 ?_
  refine s7_71 ?_
  refine s7_72 rfl ?_
  refine s7_75 ?_
  refine s7_77 1 rfl (by decide) rfl ?_
  refine s7_78 ?_
  refine s7_81c (fun h => absurd h (own_ne _)) (fun _ => ?_)
  refine s7_85 ?_
  refine s7_86 ?_
  refine s7_90 ?_
  refine s7_91 rfl ?_
  refine s7_92 ?_
  refine s7_95 ?_
  refine s7_10 ?_
  refine s7_12 ?_
  refine s7_13 rfl ?_
  refine s7_16 ?_
  refine s7_17 1 rfl (by decide) rfl ?_
  refine s7_18 ?_
  refine s7_19 rfl ?_
  refine s7_22 ?_
  refine s7_23 1 rfl (by decide) rfl ?_
  refine s7_24 ?_
  refine s7_25 (fun h => absurd h (by decide)) (fun _ => ?_)
  refine s7_28 ?_
  refine s7_29 rfl ?_
  refine s7_32 ?_
  refine s7_34 2 rfl (by decide) rfl ?_
  refine s7_35 ?_
  refine s7_38c (fun h => absurd h (own_ne _)) (fun _ => ?_)
  refine s7_42 ?_
  refine s7_43 rfl ?_
  refine s7_46 ?_
  refine s7_48 2 rfl (by decide) rfl ?_
  refine s7_49 ?_
  refine s7_50 ?_
  refine s7_51 ?_
  refine s7_52 ?_
  refine s7_53 rfl ?_
  refine s7_56c (fun _ => ?_) (fun h => absurd h hb)
  refine s7_70 ?_
  refine s7_71 ?_
  refine s7_72 rfl ?_
  refine s7_75 ?_
  refine s7_77 2 rfl (by decide) rfl ?_
  refine s7_78 ?_
  refine s7_81c (fun h => absurd h (own_ne _)) (fun _ => ?_)
  refine s7_85 ?_
  refine s7_86 ?_
  refine s7_90 ?_
  refine s7_91 rfl ?_
  refine s7_92 ?_
  refine s7_95 ?_
  refine s7_10 ?_
  refine s7_12 ?_
  refine s7_13 rfl ?_
  refine s7_16 ?_
  refine s7_17 1 rfl (by decide) rfl ?_
  refine s7_18 ?_
  refine s7_19 rfl ?_
  refine s7_22 ?_
  refine s7_23 1 rfl (by decide) rfl ?_
  refine s7_24 ?_
  refine s7_25 (fun _ => ?_) (fun h => absurd h (by decide))
  refine s7_98 ?_
  exact s7_99 ⟨rfl, rfl⟩
theorem own_r84 (a b c pd : Int32) (w : Int64) (ha : ¬ w < a.toInt64 - pd.toInt64) (hb : w < b.toInt64 - pd.toInt64) : M7 ⟨0, 0, 0, 0⟩ [.ref 2, .int 1, .int pd] [(.inr (.int, [.int 0, .int 1]) : ACell), (.inr (.int, [.int 1, .int 1]) : ACell), (.inl (0, [.ref 3, .ref 4, .ref 0, .ref 5, .long w, .ref 6, .ref 7, .ref 8, .long (b).toInt64]) : ACell), (.inr (.long, [.long 0, .long 0, .long 0, .long 0, .long 0, .long 0, .long 0, .long 0, .long 0, .long 0, .long 0, .long 0, .long 0, .long 0, .long 0, .long 0]) : ACell), (.inr (.int, [.int 0, .int 0, .int 0, .int 0, .int 0, .int 0, .int 0, .int 0, .int 0, .int 0, .int 0, .int 0, .int 0, .int 0, .int 0, .int 0]) : ACell), (.inr (.int, [.int 1, .int 2]) : ACell), (.inr (.int, [.int 0, .int 1]) : ACell), (.inr (.long, [.long 9223372036854775807, .long (a).toInt64, .long (b).toInt64]) : ACell), (.inr (.long, [.long 0, .long 0]) : ACell)] (Is (some (.int 1)) [(.inr (.int, [.int 0, .int 1]) : ACell), (.inr (.int, [.int 1, .int 1]) : ACell), (.inl (0, [.ref 3, .ref 4, .ref 0, .ref 5, .long w, .ref 6, .ref 7, .ref 8, .long (b).toInt64]) : ACell), (.inr (.long, [.long 0, .long 0, .long 0, .long 0, .long 0, .long 0, .long 0, .long 0, .long 0, .long 0, .long 0, .long 0, .long 0, .long 0, .long 0, .long 0]) : ACell), (.inr (.int, [.int 0, .int 0, .int 0, .int 0, .int 0, .int 0, .int 0, .int 0, .int 0, .int 0, .int 0, .int 0, .int 0, .int 0, .int 0, .int 0]) : ACell), (.inr (.int, [.int 1, .int 2]) : ACell), (.inr (.int, [.int 0, .int 1]) : ACell), (.inr (.long, [.long 9223372036854775807, .long (a).toInt64, .long 9223372036854775807]) : ACell), (.inr (.long, [.long 0, .long 0]) : ACell)]) := by
  refine e7 ?_
  refine s7_0 ?_
  refine s7_1 rfl ?_
  refine s7_2 ?_
  refine s7_3 rfl ?_
  refine s7_6 ?_
  refine s7_7 1 rfl (by decide) rfl ?_
  refine s7_8 rfl ?_
  refine s7_10 ?_
  refine s7_12 ?_
  refine s7_13 rfl ?_
  refine s7_16 ?_
  refine s7_17 1 rfl (by decide) rfl ?_
  refine s7_18 ?_
  refine s7_19 rfl ?_
  refine s7_22 ?_
  refine s7_23 1 rfl (by decide) rfl ?_
  refine s7_24 ?_
  refine s7_25 (fun h => absurd h (by decide)) (fun _ => ?_)
  refine s7_28 ?_
  refine s7_29 rfl ?_
  refine s7_32 ?_
  refine s7_34 1 rfl (by decide) rfl ?_
  refine s7_35 ?_
  refine s7_38c (fun h => absurd h (own_ne _)) (fun _ => ?_)
  refine s7_42 ?_
  refine s7_43 rfl ?_
  refine s7_46 ?_
  refine s7_48 1 rfl (by decide) rfl ?_
  refine s7_49 ?_
  refine s7_50 ?_
  refine s7_51 ?_
  refine s7_52 ?_
  refine s7_53 rfl ?_
  refine s7_56c (fun _ => ?_) (fun h => absurd h ha)
  refine s7_70 ?_
  refine s7_71 ?_
  refine s7_72 rfl ?_
  refine s7_75 ?_
  refine s7_77 1 rfl (by decide) rfl ?_
  refine s7_78 ?_
  refine s7_81c (fun h => absurd h (own_ne _)) (fun _ => ?_)
  refine s7_85 ?_
  refine s7_86 ?_
  refine s7_90 ?_
  refine s7_91 rfl ?_
  refine s7_92 ?_
  refine s7_95 ?_
  refine s7_10 ?_
  refine s7_12 ?_
  refine s7_13 rfl ?_
  refine s7_16 ?_
  refine s7_17 1 rfl (by decide) rfl ?_
  refine s7_18 ?_
  refine s7_19 rfl ?_
  refine s7_22 ?_
  refine s7_23 1 rfl (by decide) rfl ?_
  refine s7_24 ?_
  refine s7_25 (fun h => absurd h (by decide)) (fun _ => ?_)
  refine s7_28 ?_
  refine s7_29 rfl ?_
  refine s7_32 ?_
  refine s7_34 2 rfl (by decide) rfl ?_
  refine s7_35 ?_
  refine s7_38c (fun h => absurd h (own_ne _)) (fun _ => ?_)
  refine s7_42 ?_
  refine s7_43 rfl ?_
  refine s7_46 ?_
  refine s7_48 2 rfl (by decide) rfl ?_
  refine s7_49 ?_
  refine s7_50 ?_
  refine s7_51 ?_
  refine s7_52 ?_
  refine s7_53 rfl ?_
  refine s7_56c (fun h => absurd hb h) (fun _ => ?_)
  refine s7_60 ?_
  refine s7_61 rfl ?_
  refine s7_64 ?_
  refine s7_66 ?_
  refine s7_69 2 rfl (by decide) rfl ?_
  refine s7_70 ?_
  refine s7_71 ?_
  refine s7_72 rfl ?_
  refine s7_75 ?_
  refine s7_77 2 rfl (by decide) rfl ?_
  refine s7_78 ?_
  refine s7_81c (fun _ => ?_) (fun h => absurd h (by decide))
  refine s7_89 ?_
  refine s7_90 ?_
  refine s7_91 rfl ?_
  refine s7_92 ?_
  refine s7_95 ?_
  refine s7_10 ?_
  refine s7_12 ?_
  refine s7_13 rfl ?_
  refine s7_16 ?_
  refine s7_17 1 rfl (by decide) rfl ?_
  refine s7_18 ?_
  refine s7_19 rfl ?_
  refine s7_22 ?_
  refine s7_23 1 rfl (by decide) rfl ?_
  refine s7_24 ?_
  refine s7_25 (fun _ => ?_) (fun h => absurd h (by decide))
  refine s7_98 ?_
  exact s7_99 ⟨rfl, rfl⟩
theorem own_r86 (a b c pd : Int32) (w : Int64) : M9 ⟨0, 0, 0, 0⟩ [.ref 2, .int 0, .int 0] [(.inr (.int, [.int 0, .int 1]) : ACell), (.inr (.int, [.int 1, .int 1]) : ACell), (.inl (0, [.ref 3, .ref 4, .ref 0, .ref 5, .long w, .ref 6, .ref 7, .ref 8, .long (b).toInt64]) : ACell), (.inr (.long, [.long 0, .long 0, .long 0, .long 0, .long 0, .long 0, .long 0, .long 0, .long 0, .long 0, .long 0, .long 0, .long 0, .long 0, .long 0, .long 0]) : ACell), (.inr (.int, [.int 0, .int 0, .int 0, .int 0, .int 0, .int 0, .int 0, .int 0, .int 0, .int 0, .int 0, .int 0, .int 0, .int 0, .int 0, .int 0]) : ACell), (.inr (.int, [.int 1, .int 2]) : ACell), (.inr (.int, [.int 0, .int 1]) : ACell), (.inr (.long, [.long 9223372036854775807, .long (a).toInt64, .long 9223372036854775807]) : ACell), (.inr (.long, [.long 0, .long 0]) : ACell)] (Is (some (.long 9223372036854775807)) [(.inr (.int, [.int 0, .int 1]) : ACell), (.inr (.int, [.int 1, .int 1]) : ACell), (.inl (0, [.ref 3, .ref 4, .ref 0, .ref 5, .long w, .ref 6, .ref 7, .ref 8, .long (b).toInt64]) : ACell), (.inr (.long, [.long 0, .long 0, .long 0, .long 0, .long 0, .long 0, .long 0, .long 0, .long 0, .long 0, .long 0, .long 0, .long 0, .long 0, .long 0, .long 0]) : ACell), (.inr (.int, [.int 0, .int 0, .int 0, .int 0, .int 0, .int 0, .int 0, .int 0, .int 0, .int 0, .int 0, .int 0, .int 0, .int 0, .int 0, .int 0]) : ACell), (.inr (.int, [.int 1, .int 2]) : ACell), (.inr (.int, [.int 0, .int 1]) : ACell), (.inr (.long, [.long 9223372036854775807, .long (a).toInt64, .long 9223372036854775807]) : ACell), (.inr (.long, [.long 0, .long 0]) : ACell)]) := by
  refine e9 ?_
  refine s9_0 ?_
  refine s9_1 rfl ?_
  refine s9_4 ?_
  refine s9_5 rfl ?_
  refine s9_8 ?_
  refine s9_9 0 rfl (by decide) rfl ?_
  refine s9_10 ?_
  refine s9_11 ?_
  refine s9_12 0 rfl (by decide) rfl ?_
  exact s9_13 ⟨rfl, rfl⟩
theorem own_r87 (a b c pd : Int32) (w : Int64) : M9 ⟨0, 0, 0, 0⟩ [.ref 2, .int 1, .int 0] [(.inr (.int, [.int 0, .int 1]) : ACell), (.inr (.int, [.int 1, .int 1]) : ACell), (.inl (0, [.ref 3, .ref 4, .ref 0, .ref 5, .long w, .ref 6, .ref 7, .ref 8, .long (b).toInt64]) : ACell), (.inr (.long, [.long 0, .long 0, .long 0, .long 0, .long 0, .long 0, .long 0, .long 0, .long 0, .long 0, .long 0, .long 0, .long 0, .long 0, .long 0, .long 0]) : ACell), (.inr (.int, [.int 0, .int 0, .int 0, .int 0, .int 0, .int 0, .int 0, .int 0, .int 0, .int 0, .int 0, .int 0, .int 0, .int 0, .int 0, .int 0]) : ACell), (.inr (.int, [.int 1, .int 2]) : ACell), (.inr (.int, [.int 0, .int 1]) : ACell), (.inr (.long, [.long 9223372036854775807, .long (a).toInt64, .long 9223372036854775807]) : ACell), (.inr (.long, [.long 0, .long 0]) : ACell)] (Is (some (.long (a).toInt64)) [(.inr (.int, [.int 0, .int 1]) : ACell), (.inr (.int, [.int 1, .int 1]) : ACell), (.inl (0, [.ref 3, .ref 4, .ref 0, .ref 5, .long w, .ref 6, .ref 7, .ref 8, .long (b).toInt64]) : ACell), (.inr (.long, [.long 0, .long 0, .long 0, .long 0, .long 0, .long 0, .long 0, .long 0, .long 0, .long 0, .long 0, .long 0, .long 0, .long 0, .long 0, .long 0]) : ACell), (.inr (.int, [.int 0, .int 0, .int 0, .int 0, .int 0, .int 0, .int 0, .int 0, .int 0, .int 0, .int 0, .int 0, .int 0, .int 0, .int 0, .int 0]) : ACell), (.inr (.int, [.int 1, .int 2]) : ACell), (.inr (.int, [.int 0, .int 1]) : ACell), (.inr (.long, [.long 9223372036854775807, .long (a).toInt64, .long 9223372036854775807]) : ACell), (.inr (.long, [.long 0, .long 0]) : ACell)]) := by
  refine e9 ?_
  refine s9_0 ?_
  refine s9_1 rfl ?_
  refine s9_4 ?_
  refine s9_5 rfl ?_
  refine s9_8 ?_
  refine s9_9 1 rfl (by decide) rfl ?_
  refine s9_10 ?_
  refine s9_11 ?_
  refine s9_12 1 rfl (by decide) rfl ?_
  exact s9_13 ⟨rfl, rfl⟩
theorem own_r88 (a b c pd : Int32) (w : Int64) : M9 ⟨0, 0, 0, 0⟩ [.ref 2, .int 1, .int 1] [(.inr (.int, [.int 0, .int 1]) : ACell), (.inr (.int, [.int 1, .int 1]) : ACell), (.inl (0, [.ref 3, .ref 4, .ref 0, .ref 5, .long w, .ref 6, .ref 7, .ref 8, .long (b).toInt64]) : ACell), (.inr (.long, [.long 0, .long 0, .long 0, .long 0, .long 0, .long 0, .long 0, .long 0, .long 0, .long 0, .long 0, .long 0, .long 0, .long 0, .long 0, .long 0]) : ACell), (.inr (.int, [.int 0, .int 0, .int 0, .int 0, .int 0, .int 0, .int 0, .int 0, .int 0, .int 0, .int 0, .int 0, .int 0, .int 0, .int 0, .int 0]) : ACell), (.inr (.int, [.int 1, .int 2]) : ACell), (.inr (.int, [.int 0, .int 1]) : ACell), (.inr (.long, [.long 9223372036854775807, .long (a).toInt64, .long 9223372036854775807]) : ACell), (.inr (.long, [.long 0, .long 0]) : ACell)] (Is (some (.long 9223372036854775807)) [(.inr (.int, [.int 0, .int 1]) : ACell), (.inr (.int, [.int 1, .int 1]) : ACell), (.inl (0, [.ref 3, .ref 4, .ref 0, .ref 5, .long w, .ref 6, .ref 7, .ref 8, .long (b).toInt64]) : ACell), (.inr (.long, [.long 0, .long 0, .long 0, .long 0, .long 0, .long 0, .long 0, .long 0, .long 0, .long 0, .long 0, .long 0, .long 0, .long 0, .long 0, .long 0]) : ACell), (.inr (.int, [.int 0, .int 0, .int 0, .int 0, .int 0, .int 0, .int 0, .int 0, .int 0, .int 0, .int 0, .int 0, .int 0, .int 0, .int 0, .int 0]) : ACell), (.inr (.int, [.int 1, .int 2]) : ACell), (.inr (.int, [.int 0, .int 1]) : ACell), (.inr (.long, [.long 9223372036854775807, .long (a).toInt64, .long 9223372036854775807]) : ACell), (.inr (.long, [.long 0, .long 0]) : ACell)]) := by
  refine e9 ?_
  refine s9_0 ?_
  refine s9_1 rfl ?_
  refine s9_4 ?_
  refine s9_5 rfl ?_
  refine s9_8 ?_
  refine s9_9 1 rfl (by decide) rfl ?_
  refine s9_10 ?_
  refine s9_11 ?_
  refine s9_12 2 rfl (by decide) rfl ?_
  exact s9_13 ⟨rfl, rfl⟩
theorem own_r89 (a b c pd : Int32) (w : Int64) (ha : ¬ w < a.toInt64 - pd.toInt64) (hb : w < b.toInt64 - pd.toInt64) (hc : ¬ w < c.toInt64 - pd.toInt64) : M7 ⟨0, 0, 0, 0⟩ [.ref 2, .int 1, .int pd] [(.inr (.int, [.int 0, .int 1]) : ACell), (.inr (.int, [.int 1, .int 1]) : ACell), (.inl (0, [.ref 3, .ref 4, .ref 0, .ref 5, .long w, .ref 6, .ref 7, .ref 8, .long (b).toInt64]) : ACell), (.inr (.long, [.long 0, .long 0, .long 0, .long 0, .long 0, .long 0, .long 0, .long 0, .long 0, .long 0, .long 0, .long 0, .long 0, .long 0, .long 0, .long 0]) : ACell), (.inr (.int, [.int 0, .int 0, .int 0, .int 0, .int 0, .int 0, .int 0, .int 0, .int 0, .int 0, .int 0, .int 0, .int 0, .int 0, .int 0, .int 0]) : ACell), (.inr (.int, [.int 1, .int 2]) : ACell), (.inr (.int, [.int 0, .int 1]) : ACell), (.inr (.long, [.long (c).toInt64, .long (a).toInt64, .long (b).toInt64]) : ACell), (.inr (.long, [.long 0, .long 0]) : ACell)] (Is (some (.int 1)) [(.inr (.int, [.int 0, .int 1]) : ACell), (.inr (.int, [.int 1, .int 1]) : ACell), (.inl (0, [.ref 3, .ref 4, .ref 0, .ref 5, .long w, .ref 6, .ref 7, .ref 8, .long (b).toInt64]) : ACell), (.inr (.long, [.long 0, .long 0, .long 0, .long 0, .long 0, .long 0, .long 0, .long 0, .long 0, .long 0, .long 0, .long 0, .long 0, .long 0, .long 0, .long 0]) : ACell), (.inr (.int, [.int 0, .int 0, .int 0, .int 0, .int 0, .int 0, .int 0, .int 0, .int 0, .int 0, .int 0, .int 0, .int 0, .int 0, .int 0, .int 0]) : ACell), (.inr (.int, [.int 1, .int 2]) : ACell), (.inr (.int, [.int 0, .int 1]) : ACell), (.inr (.long, [.long (c).toInt64, .long (a).toInt64, .long 9223372036854775807]) : ACell), (.inr (.long, [.long 0, .long 0]) : ACell)]) := by
  refine e7 ?_
  refine s7_0 ?_
  refine s7_1 rfl ?_
  refine s7_2 ?_
  refine s7_3 rfl ?_
  refine s7_6 ?_
  refine s7_7 1 rfl (by decide) rfl ?_
  refine s7_8 rfl ?_
  refine s7_10 ?_
  refine s7_12 ?_
  refine s7_13 rfl ?_
  refine s7_16 ?_
  refine s7_17 1 rfl (by decide) rfl ?_
  refine s7_18 ?_
  refine s7_19 rfl ?_
  refine s7_22 ?_
  refine s7_23 1 rfl (by decide) rfl ?_
  refine s7_24 ?_
  refine s7_25 (fun h => absurd h (by decide)) (fun _ => ?_)
  refine s7_28 ?_
  refine s7_29 rfl ?_
  refine s7_32 ?_
  refine s7_34 1 rfl (by decide) rfl ?_
  refine s7_35 ?_
  refine s7_38c (fun h => absurd h (own_ne _)) (fun _ => ?_)
  refine s7_42 ?_
  refine s7_43 rfl ?_
  refine s7_46 ?_
  refine s7_48 1 rfl (by decide) rfl ?_
  refine s7_49 ?_
  refine s7_50 ?_
  refine s7_51 ?_
  refine s7_52 ?_
  refine s7_53 rfl ?_
  refine s7_56c (fun _ => ?_) (fun h => absurd h ha)
  refine s7_70 ?_
  refine s7_71 ?_
  refine s7_72 rfl ?_
  refine s7_75 ?_
  refine s7_77 1 rfl (by decide) rfl ?_
  refine s7_78 ?_
  refine s7_81c (fun h => absurd h (own_ne _)) (fun _ => ?_)
  refine s7_85 ?_
  refine s7_86 ?_
  refine s7_90 ?_
  refine s7_91 rfl ?_
  refine s7_92 ?_
  refine s7_95 ?_
  refine s7_10 ?_
  refine s7_12 ?_
  refine s7_13 rfl ?_
  refine s7_16 ?_
  refine s7_17 1 rfl (by decide) rfl ?_
  refine s7_18 ?_
  refine s7_19 rfl ?_
  refine s7_22 ?_
  refine s7_23 1 rfl (by decide) rfl ?_
  refine s7_24 ?_
  refine s7_25 (fun h => absurd h (by decide)) (fun _ => ?_)
  refine s7_28 ?_
  refine s7_29 rfl ?_
  refine s7_32 ?_
  refine s7_34 2 rfl (by decide) rfl ?_
  refine s7_35 ?_
  refine s7_38c (fun h => absurd h (own_ne _)) (fun _ => ?_)
  refine s7_42 ?_
  refine s7_43 rfl ?_
  refine s7_46 ?_
  refine s7_48 2 rfl (by decide) rfl ?_
  refine s7_49 ?_
  refine s7_50 ?_
  refine s7_51 ?_
  refine s7_52 ?_
  refine s7_53 rfl ?_
  refine s7_56c (fun h => absurd hb h) (fun _ => ?_)
  refine s7_60 ?_
  refine s7_61 rfl ?_
  refine s7_64 ?_
  refine s7_66 ?_
  refine s7_69 2 rfl (by decide) rfl ?_
  refine s7_70 ?_
  refine s7_71 ?_
  refine s7_72 rfl ?_
  refine s7_75 ?_
  refine s7_77 2 rfl (by decide) rfl ?_
  refine s7_78 ?_
  refine s7_81c (fun _ => ?_) (fun h => absurd h (by decide))
  refine s7_89 ?_
  refine s7_90 ?_
  refine s7_91 rfl ?_
  refine s7_92 ?_
  refine s7_95 ?_
  refine s7_10 ?_
  refine s7_12 ?_
  refine s7_13 rfl ?_
  refine s7_16 ?_
  refine s7_17 1 rfl (by decide) rfl ?_
  refine s7_18 ?_
  refine s7_19 rfl ?_
  refine s7_22 ?_
  refine s7_23 1 rfl (by decide) rfl ?_
  refine s7_24 ?_
  refine s7_25 (fun _ => ?_) (fun h => absurd h (by decide))
  refine s7_98 ?_
  exact s7_99 ⟨rfl, rfl⟩
theorem own_r91 (a b c pd : Int32) (w : Int64) : M9 ⟨0, 0, 0, 0⟩ [.ref 2, .int 0, .int 0] [(.inr (.int, [.int 0, .int 1]) : ACell), (.inr (.int, [.int 1, .int 1]) : ACell), (.inl (0, [.ref 3, .ref 4, .ref 0, .ref 5, .long w, .ref 6, .ref 7, .ref 8, .long (b).toInt64]) : ACell), (.inr (.long, [.long 0, .long 0, .long 0, .long 0, .long 0, .long 0, .long 0, .long 0, .long 0, .long 0, .long 0, .long 0, .long 0, .long 0, .long 0, .long 0]) : ACell), (.inr (.int, [.int 0, .int 0, .int 0, .int 0, .int 0, .int 0, .int 0, .int 0, .int 0, .int 0, .int 0, .int 0, .int 0, .int 0, .int 0, .int 0]) : ACell), (.inr (.int, [.int 1, .int 2]) : ACell), (.inr (.int, [.int 0, .int 1]) : ACell), (.inr (.long, [.long (c).toInt64, .long (a).toInt64, .long 9223372036854775807]) : ACell), (.inr (.long, [.long 0, .long 0]) : ACell)] (Is (some (.long (c).toInt64)) [(.inr (.int, [.int 0, .int 1]) : ACell), (.inr (.int, [.int 1, .int 1]) : ACell), (.inl (0, [.ref 3, .ref 4, .ref 0, .ref 5, .long w, .ref 6, .ref 7, .ref 8, .long (b).toInt64]) : ACell), (.inr (.long, [.long 0, .long 0, .long 0, .long 0, .long 0, .long 0, .long 0, .long 0, .long 0, .long 0, .long 0, .long 0, .long 0, .long 0, .long 0, .long 0]) : ACell), (.inr (.int, [.int 0, .int 0, .int 0, .int 0, .int 0, .int 0, .int 0, .int 0, .int 0, .int 0, .int 0, .int 0, .int 0, .int 0, .int 0, .int 0]) : ACell), (.inr (.int, [.int 1, .int 2]) : ACell), (.inr (.int, [.int 0, .int 1]) : ACell), (.inr (.long, [.long (c).toInt64, .long (a).toInt64, .long 9223372036854775807]) : ACell), (.inr (.long, [.long 0, .long 0]) : ACell)]) := by
  refine e9 ?_
  refine s9_0 ?_
  refine s9_1 rfl ?_
  refine s9_4 ?_
  refine s9_5 rfl ?_
  refine s9_8 ?_
  refine s9_9 0 rfl (by decide) rfl ?_
  refine s9_10 ?_
  refine s9_11 ?_
  refine s9_12 0 rfl (by decide) rfl ?_
  exact s9_13 ⟨rfl, rfl⟩
theorem own_r92 (a b c pd : Int32) (w : Int64) : M9 ⟨0, 0, 0, 0⟩ [.ref 2, .int 1, .int 0] [(.inr (.int, [.int 0, .int 1]) : ACell), (.inr (.int, [.int 1, .int 1]) : ACell), (.inl (0, [.ref 3, .ref 4, .ref 0, .ref 5, .long w, .ref 6, .ref 7, .ref 8, .long (b).toInt64]) : ACell), (.inr (.long, [.long 0, .long 0, .long 0, .long 0, .long 0, .long 0, .long 0, .long 0, .long 0, .long 0, .long 0, .long 0, .long 0, .long 0, .long 0, .long 0]) : ACell), (.inr (.int, [.int 0, .int 0, .int 0, .int 0, .int 0, .int 0, .int 0, .int 0, .int 0, .int 0, .int 0, .int 0, .int 0, .int 0, .int 0, .int 0]) : ACell), (.inr (.int, [.int 1, .int 2]) : ACell), (.inr (.int, [.int 0, .int 1]) : ACell), (.inr (.long, [.long (c).toInt64, .long (a).toInt64, .long 9223372036854775807]) : ACell), (.inr (.long, [.long 0, .long 0]) : ACell)] (Is (some (.long (a).toInt64)) [(.inr (.int, [.int 0, .int 1]) : ACell), (.inr (.int, [.int 1, .int 1]) : ACell), (.inl (0, [.ref 3, .ref 4, .ref 0, .ref 5, .long w, .ref 6, .ref 7, .ref 8, .long (b).toInt64]) : ACell), (.inr (.long, [.long 0, .long 0, .long 0, .long 0, .long 0, .long 0, .long 0, .long 0, .long 0, .long 0, .long 0, .long 0, .long 0, .long 0, .long 0, .long 0]) : ACell), (.inr (.int, [.int 0, .int 0, .int 0, .int 0, .int 0, .int 0, .int 0, .int 0, .int 0, .int 0, .int 0, .int 0, .int 0, .int 0, .int 0, .int 0]) : ACell), (.inr (.int, [.int 1, .int 2]) : ACell), (.inr (.int, [.int 0, .int 1]) : ACell), (.inr (.long, [.long (c).toInt64, .long (a).toInt64, .long 9223372036854775807]) : ACell), (.inr (.long, [.long 0, .long 0]) : ACell)]) := by
  refine e9 ?_
  refine s9_0 ?_
  refine s9_1 rfl ?_
  refine s9_4 ?_
  refine s9_5 rfl ?_
  refine s9_8 ?_
  refine s9_9 1 rfl (by decide) rfl ?_
  refine s9_10 ?_
  refine s9_11 ?_
  refine s9_12 1 rfl (by decide) rfl ?_
  exact s9_13 ⟨rfl, rfl⟩
theorem own_r93 (a b c pd : Int32) (w : Int64) : M9 ⟨0, 0, 0, 0⟩ [.ref 2, .int 1, .int 1] [(.inr (.int, [.int 0, .int 1]) : ACell), (.inr (.int, [.int 1, .int 1]) : ACell), (.inl (0, [.ref 3, .ref 4, .ref 0, .ref 5, .long w, .ref 6, .ref 7, .ref 8, .long (b).toInt64]) : ACell), (.inr (.long, [.long 0, .long 0, .long 0, .long 0, .long 0, .long 0, .long 0, .long 0, .long 0, .long 0, .long 0, .long 0, .long 0, .long 0, .long 0, .long 0]) : ACell), (.inr (.int, [.int 0, .int 0, .int 0, .int 0, .int 0, .int 0, .int 0, .int 0, .int 0, .int 0, .int 0, .int 0, .int 0, .int 0, .int 0, .int 0]) : ACell), (.inr (.int, [.int 1, .int 2]) : ACell), (.inr (.int, [.int 0, .int 1]) : ACell), (.inr (.long, [.long (c).toInt64, .long (a).toInt64, .long 9223372036854775807]) : ACell), (.inr (.long, [.long 0, .long 0]) : ACell)] (Is (some (.long 9223372036854775807)) [(.inr (.int, [.int 0, .int 1]) : ACell), (.inr (.int, [.int 1, .int 1]) : ACell), (.inl (0, [.ref 3, .ref 4, .ref 0, .ref 5, .long w, .ref 6, .ref 7, .ref 8, .long (b).toInt64]) : ACell), (.inr (.long, [.long 0, .long 0, .long 0, .long 0, .long 0, .long 0, .long 0, .long 0, .long 0, .long 0, .long 0, .long 0, .long 0, .long 0, .long 0, .long 0]) : ACell), (.inr (.int, [.int 0, .int 0, .int 0, .int 0, .int 0, .int 0, .int 0, .int 0, .int 0, .int 0, .int 0, .int 0, .int 0, .int 0, .int 0, .int 0]) : ACell), (.inr (.int, [.int 1, .int 2]) : ACell), (.inr (.int, [.int 0, .int 1]) : ACell), (.inr (.long, [.long (c).toInt64, .long (a).toInt64, .long 9223372036854775807]) : ACell), (.inr (.long, [.long 0, .long 0]) : ACell)]) := by
  refine e9 ?_
  refine s9_0 ?_
  refine s9_1 rfl ?_
  refine s9_4 ?_
  refine s9_5 rfl ?_
  refine s9_8 ?_
  refine s9_9 1 rfl (by decide) rfl ?_
  refine s9_10 ?_
  refine s9_11 ?_
  refine s9_12 2 rfl (by decide) rfl ?_
  exact s9_13 ⟨rfl, rfl⟩
theorem own_r94 (a b c pd : Int32) (w : Int64) (ha : ¬ w < a.toInt64 - pd.toInt64) (hb : w < b.toInt64 - pd.toInt64) (hc : w < c.toInt64 - pd.toInt64) : M7 ⟨0, 0, 0, 0⟩ [.ref 2, .int 1, .int pd] [(.inr (.int, [.int 0, .int 1]) : ACell), (.inr (.int, [.int 1, .int 1]) : ACell), (.inl (0, [.ref 3, .ref 4, .ref 0, .ref 5, .long w, .ref 6, .ref 7, .ref 8, .long (b).toInt64]) : ACell), (.inr (.long, [.long 0, .long 0, .long 0, .long 0, .long 0, .long 0, .long 0, .long 0, .long 0, .long 0, .long 0, .long 0, .long 0, .long 0, .long 0, .long 0]) : ACell), (.inr (.int, [.int 0, .int 0, .int 0, .int 0, .int 0, .int 0, .int 0, .int 0, .int 0, .int 0, .int 0, .int 0, .int 0, .int 0, .int 0, .int 0]) : ACell), (.inr (.int, [.int 1, .int 2]) : ACell), (.inr (.int, [.int 0, .int 1]) : ACell), (.inr (.long, [.long (c).toInt64, .long (a).toInt64, .long (b).toInt64]) : ACell), (.inr (.long, [.long 0, .long 0]) : ACell)] (Is (some (.int 1)) [(.inr (.int, [.int 0, .int 1]) : ACell), (.inr (.int, [.int 1, .int 1]) : ACell), (.inl (0, [.ref 3, .ref 4, .ref 0, .ref 5, .long w, .ref 6, .ref 7, .ref 8, .long (b).toInt64]) : ACell), (.inr (.long, [.long 0, .long 0, .long 0, .long 0, .long 0, .long 0, .long 0, .long 0, .long 0, .long 0, .long 0, .long 0, .long 0, .long 0, .long 0, .long 0]) : ACell), (.inr (.int, [.int 0, .int 0, .int 0, .int 0, .int 0, .int 0, .int 0, .int 0, .int 0, .int 0, .int 0, .int 0, .int 0, .int 0, .int 0, .int 0]) : ACell), (.inr (.int, [.int 1, .int 2]) : ACell), (.inr (.int, [.int 0, .int 1]) : ACell), (.inr (.long, [.long (c).toInt64, .long (a).toInt64, .long 9223372036854775807]) : ACell), (.inr (.long, [.long 0, .long 0]) : ACell)]) := by
  refine e7 ?_
  refine s7_0 ?_
  refine s7_1 rfl ?_
  refine s7_2 ?_
  refine s7_3 rfl ?_
  refine s7_6 ?_
  refine s7_7 1 rfl (by decide) rfl ?_
  refine s7_8 rfl ?_
  refine s7_10 ?_
  refine s7_12 ?_
  refine s7_13 rfl ?_
  refine s7_16 ?_
  refine s7_17 1 rfl (by decide) rfl ?_
  refine s7_18 ?_
  refine s7_19 rfl ?_
  refine s7_22 ?_
  refine s7_23 1 rfl (by decide) rfl ?_
  refine s7_24 ?_
  refine s7_25 (fun h => absurd h (by decide)) (fun _ => ?_)
  refine s7_28 ?_
  refine s7_29 rfl ?_
  refine s7_32 ?_
  refine s7_34 1 rfl (by decide) rfl ?_
  refine s7_35 ?_
  refine s7_38c (fun h => absurd h (own_ne _)) (fun _ => ?_)
  refine s7_42 ?_
  refine s7_43 rfl ?_
  refine s7_46 ?_
  refine s7_48 1 rfl (by decide) rfl ?_
  refine s7_49 ?_
  refine s7_50 ?_
  refine s7_51 ?_
  refine s7_52 ?_
  refine s7_53 rfl ?_
  refine s7_56c (fun _ => ?_) (fun h => absurd h ha)
  refine s7_70 ?_
  refine s7_71 ?_
  refine s7_72 rfl ?_
  refine s7_75 ?_
  refine s7_77 1 rfl (by decide) rfl ?_
  refine s7_78 ?_
  refine s7_81c (fun h => absurd h (own_ne _)) (fun _ => ?_)
  refine s7_85 ?_
  refine s7_86 ?_
  refine s7_90 ?_
  refine s7_91 rfl ?_
  refine s7_92 ?_
  refine s7_95 ?_
  refine s7_10 ?_
  refine s7_12 ?_
  refine s7_13 rfl ?_
  refine s7_16 ?_
  refine s7_17 1 rfl (by decide) rfl ?_
  refine s7_18 ?_
  refine s7_19 rfl ?_
  refine s7_22 ?_
  refine s7_23 1 rfl (by decide) rfl ?_
  refine s7_24 ?_
  refine s7_25 (fun h => absurd h (by decide)) (fun _ => ?_)
  refine s7_28 ?_
  refine s7_29 rfl ?_
  refine s7_32 ?_
  refine s7_34 2 rfl (by decide) rfl ?_
  refine s7_35 ?_
  refine s7_38c (fun h => absurd h (own_ne _)) (fun _ => ?_)
  refine s7_42 ?_
  refine s7_43 rfl ?_
  refine s7_46 ?_
  refine s7_48 2 rfl (by decide) rfl ?_
  refine s7_49 ?_
  refine s7_50 ?_
  refine s7_51 ?_
  refine s7_52 ?_
  refine s7_53 rfl ?_
  refine s7_56c (fun h => absurd hb h) (fun _ => ?_)
  refine s7_60 ?_
  refine s7_61 rfl ?_
  refine s7_64 ?_
  refine s7_66 ?_
  refine s7_69 2 rfl (by decide) rfl ?_
  refine s7_70 ?_
  refine s7_71 ?_
  refine s7_72 rfl ?_
  refine s7_75 ?_
  refine s7_77 2 rfl (by decide) rfl ?_
  refine s7_78 ?_
  refine s7_81c (fun _ => ?_) (fun h => absurd h (by decide))
  refine s7_89 ?_
  refine s7_90 ?_
  refine s7_91 rfl ?_
  refine s7_92 ?_
  refine s7_95 ?_
  refine s7_10 ?_
  refine s7_12 ?_
  refine s7_13 rfl ?_
  refine s7_16 ?_
  refine s7_17 1 rfl (by decide) rfl ?_
  refine s7_18 ?_
  refine s7_19 rfl ?_
  refine s7_22 ?_
  refine s7_23 1 rfl (by decide) rfl ?_
  refine s7_24 ?_
  refine s7_25 (fun _ => ?_) (fun h => absurd h (by decide))
  refine s7_98 ?_
  exact s7_99 ⟨rfl, rfl⟩
theorem own_r96 (a b c pd : Int32) (w : Int64) (ha : w < a.toInt64 - pd.toInt64) : M7 ⟨0, 0, 0, 0⟩ [.ref 2, .int 1, .int pd] [(.inr (.int, [.int 0, .int 1]) : ACell), (.inr (.int, [.int 1, .int 1]) : ACell), (.inl (0, [.ref 3, .ref 4, .ref 0, .ref 5, .long w, .ref 6, .ref 7, .ref 8, .long (a).toInt64]) : ACell), (.inr (.long, [.long 0, .long 0, .long 0, .long 0, .long 0, .long 0, .long 0, .long 0, .long 0, .long 0, .long 0, .long 0, .long 0, .long 0, .long 0, .long 0]) : ACell), (.inr (.int, [.int 0, .int 0, .int 0, .int 0, .int 0, .int 0, .int 0, .int 0, .int 0, .int 0, .int 0, .int 0, .int 0, .int 0, .int 0, .int 0]) : ACell), (.inr (.int, [.int 1, .int 2]) : ACell), (.inr (.int, [.int 0, .int 1]) : ACell), (.inr (.long, [.long 9223372036854775807, .long (a).toInt64, .long 9223372036854775807]) : ACell), (.inr (.long, [.long 0, .long 0]) : ACell)] (Is (some (.int 0)) [(.inr (.int, [.int 0, .int 1]) : ACell), (.inr (.int, [.int 1, .int 1]) : ACell), (.inl (0, [.ref 3, .ref 4, .ref 0, .ref 5, .long w, .ref 6, .ref 7, .ref 8, .long (a).toInt64]) : ACell), (.inr (.long, [.long 0, .long 0, .long 0, .long 0, .long 0, .long 0, .long 0, .long 0, .long 0, .long 0, .long 0, .long 0, .long 0, .long 0, .long 0, .long 0]) : ACell), (.inr (.int, [.int 0, .int 0, .int 0, .int 0, .int 0, .int 0, .int 0, .int 0, .int 0, .int 0, .int 0, .int 0, .int 0, .int 0, .int 0, .int 0]) : ACell), (.inr (.int, [.int 1, .int 2]) : ACell), (.inr (.int, [.int 0, .int 1]) : ACell), (.inr (.long, [.long 9223372036854775807, .long 9223372036854775807, .long 9223372036854775807]) : ACell), (.inr (.long, [.long 0, .long 0]) : ACell)]) := by
  refine e7 ?_
  refine s7_0 ?_
  refine s7_1 rfl ?_
  refine s7_2 ?_
  refine s7_3 rfl ?_
  refine s7_6 ?_
  refine s7_7 1 rfl (by decide) rfl ?_
  refine s7_8 rfl ?_
  refine s7_10 ?_
  refine s7_12 ?_
  refine s7_13 rfl ?_
  refine s7_16 ?_
  refine s7_17 1 rfl (by decide) rfl ?_
  refine s7_18 ?_
  refine s7_19 rfl ?_
  refine s7_22 ?_
  refine s7_23 1 rfl (by decide) rfl ?_
  refine s7_24 ?_
  refine s7_25 (fun h => absurd h (by decide)) (fun _ => ?_)
  refine s7_28 ?_
  refine s7_29 rfl ?_
  refine s7_32 ?_
  refine s7_34 1 rfl (by decide) rfl ?_
  refine s7_35 ?_
  refine s7_38c (fun h => absurd h (own_ne _)) (fun _ => ?_)
  refine s7_42 ?_
  refine s7_43 rfl ?_
  refine s7_46 ?_
  refine s7_48 1 rfl (by decide) rfl ?_
  refine s7_49 ?_
  refine s7_50 ?_
  refine s7_51 ?_
  refine s7_52 ?_
  refine s7_53 rfl ?_
  refine s7_56c (fun h => absurd ha h) (fun _ => ?_)
  refine s7_60 ?_
  refine s7_61 rfl ?_
  refine s7_64 ?_
  refine s7_66 ?_
  refine s7_69 1 rfl (by decide) rfl ?_
  refine s7_70 ?_
  refine s7_71 ?_
  refine s7_72 rfl ?_
  refine s7_75 ?_
  refine s7_77 1 rfl (by decide) rfl ?_
  refine s7_78 ?_
  refine s7_81c (fun _ => ?_) (fun h => absurd h (by decide))
  refine s7_89 ?_
  refine s7_90 ?_
  refine s7_91 rfl ?_
  refine s7_92 ?_
  refine s7_95 ?_
  refine s7_10 ?_
  refine s7_12 ?_
  refine s7_13 rfl ?_
  refine s7_16 ?_
  refine s7_17 1 rfl (by decide) rfl ?_
  refine s7_18 ?_
  refine s7_19 rfl ?_
  refine s7_22 ?_
  refine s7_23 1 rfl (by decide) rfl ?_
  refine s7_24 ?_
  refine s7_25 (fun h => absurd h (by decide)) (fun _ => ?_)
  refine s7_28 ?_
  refine s7_29 rfl ?_
  refine s7_32 ?_
  refine s7_34 2 rfl (by decide) rfl ?_
  refine s7_35 ?_
  refine s7_38c (fun _ => ?_) (fun h => absurd h (by decide))
  refine s7_70 ?_
  refine s7_71 ?_
  refine s7_72 rfl ?_
  refine s7_75 ?_
  refine s7_77 2 rfl (by decide) rfl ?_
  refine s7_78 ?_
  refine s7_81c (fun _ => ?_) (fun h => absurd h (by decide))
  refine s7_89 ?_
  refine s7_90 ?_
  refine s7_91 rfl ?_
  refine s7_92 ?_
  refine s7_95 ?_
  refine s7_10 ?_
  refine s7_12 ?_
  refine s7_13 rfl ?_
  refine s7_16 ?_
  refine s7_17 1 rfl (by decide) rfl ?_
  refine s7_18 ?_
  refine s7_19 rfl ?_
  refine s7_22 ?_
  refine s7_23 1 rfl (by decide) rfl ?_
  refine s7_24 ?_
  refine s7_25 (fun _ => ?_) (fun h => absurd h (by decide))
  refine s7_98 ?_
  exact s7_99 ⟨rfl, rfl⟩
theorem own_r98 (a b c pd : Int32) (w : Int64) : M9 ⟨0, 0, 0, 0⟩ [.ref 2, .int 0, .int 0] [(.inr (.int, [.int 0, .int 1]) : ACell), (.inr (.int, [.int 1, .int 1]) : ACell), (.inl (0, [.ref 3, .ref 4, .ref 0, .ref 5, .long w, .ref 6, .ref 7, .ref 8, .long (a).toInt64]) : ACell), (.inr (.long, [.long 0, .long 0, .long 0, .long 0, .long 0, .long 0, .long 0, .long 0, .long 0, .long 0, .long 0, .long 0, .long 0, .long 0, .long 0, .long 0]) : ACell), (.inr (.int, [.int 0, .int 0, .int 0, .int 0, .int 0, .int 0, .int 0, .int 0, .int 0, .int 0, .int 0, .int 0, .int 0, .int 0, .int 0, .int 0]) : ACell), (.inr (.int, [.int 1, .int 2]) : ACell), (.inr (.int, [.int 0, .int 1]) : ACell), (.inr (.long, [.long 9223372036854775807, .long 9223372036854775807, .long 9223372036854775807]) : ACell), (.inr (.long, [.long 0, .long 0]) : ACell)] (Is (some (.long 9223372036854775807)) [(.inr (.int, [.int 0, .int 1]) : ACell), (.inr (.int, [.int 1, .int 1]) : ACell), (.inl (0, [.ref 3, .ref 4, .ref 0, .ref 5, .long w, .ref 6, .ref 7, .ref 8, .long (a).toInt64]) : ACell), (.inr (.long, [.long 0, .long 0, .long 0, .long 0, .long 0, .long 0, .long 0, .long 0, .long 0, .long 0, .long 0, .long 0, .long 0, .long 0, .long 0, .long 0]) : ACell), (.inr (.int, [.int 0, .int 0, .int 0, .int 0, .int 0, .int 0, .int 0, .int 0, .int 0, .int 0, .int 0, .int 0, .int 0, .int 0, .int 0, .int 0]) : ACell), (.inr (.int, [.int 1, .int 2]) : ACell), (.inr (.int, [.int 0, .int 1]) : ACell), (.inr (.long, [.long 9223372036854775807, .long 9223372036854775807, .long 9223372036854775807]) : ACell), (.inr (.long, [.long 0, .long 0]) : ACell)]) := by
  refine e9 ?_
  refine s9_0 ?_
  refine s9_1 rfl ?_
  refine s9_4 ?_
  refine s9_5 rfl ?_
  refine s9_8 ?_
  refine s9_9 0 rfl (by decide) rfl ?_
  refine s9_10 ?_
  refine s9_11 ?_
  refine s9_12 0 rfl (by decide) rfl ?_
  exact s9_13 ⟨rfl, rfl⟩
theorem own_r99 (a b c pd : Int32) (w : Int64) : M9 ⟨0, 0, 0, 0⟩ [.ref 2, .int 1, .int 0] [(.inr (.int, [.int 0, .int 1]) : ACell), (.inr (.int, [.int 1, .int 1]) : ACell), (.inl (0, [.ref 3, .ref 4, .ref 0, .ref 5, .long w, .ref 6, .ref 7, .ref 8, .long (a).toInt64]) : ACell), (.inr (.long, [.long 0, .long 0, .long 0, .long 0, .long 0, .long 0, .long 0, .long 0, .long 0, .long 0, .long 0, .long 0, .long 0, .long 0, .long 0, .long 0]) : ACell), (.inr (.int, [.int 0, .int 0, .int 0, .int 0, .int 0, .int 0, .int 0, .int 0, .int 0, .int 0, .int 0, .int 0, .int 0, .int 0, .int 0, .int 0]) : ACell), (.inr (.int, [.int 1, .int 2]) : ACell), (.inr (.int, [.int 0, .int 1]) : ACell), (.inr (.long, [.long 9223372036854775807, .long 9223372036854775807, .long 9223372036854775807]) : ACell), (.inr (.long, [.long 0, .long 0]) : ACell)] (Is (some (.long 9223372036854775807)) [(.inr (.int, [.int 0, .int 1]) : ACell), (.inr (.int, [.int 1, .int 1]) : ACell), (.inl (0, [.ref 3, .ref 4, .ref 0, .ref 5, .long w, .ref 6, .ref 7, .ref 8, .long (a).toInt64]) : ACell), (.inr (.long, [.long 0, .long 0, .long 0, .long 0, .long 0, .long 0, .long 0, .long 0, .long 0, .long 0, .long 0, .long 0, .long 0, .long 0, .long 0, .long 0]) : ACell), (.inr (.int, [.int 0, .int 0, .int 0, .int 0, .int 0, .int 0, .int 0, .int 0, .int 0, .int 0, .int 0, .int 0, .int 0, .int 0, .int 0, .int 0]) : ACell), (.inr (.int, [.int 1, .int 2]) : ACell), (.inr (.int, [.int 0, .int 1]) : ACell), (.inr (.long, [.long 9223372036854775807, .long 9223372036854775807, .long 9223372036854775807]) : ACell), (.inr (.long, [.long 0, .long 0]) : ACell)]) := by
  refine e9 ?_
  refine s9_0 ?_
  refine s9_1 rfl ?_
  refine s9_4 ?_
  refine s9_5 rfl ?_
  refine s9_8 ?_
  refine s9_9 1 rfl (by decide) rfl ?_
  refine s9_10 ?_
  refine s9_11 ?_
  refine s9_12 1 rfl (by decide) rfl ?_
  exact s9_13 ⟨rfl, rfl⟩
theorem own_r100 (a b c pd : Int32) (w : Int64) : M9 ⟨0, 0, 0, 0⟩ [.ref 2, .int 1, .int 1] [(.inr (.int, [.int 0, .int 1]) : ACell), (.inr (.int, [.int 1, .int 1]) : ACell), (.inl (0, [.ref 3, .ref 4, .ref 0, .ref 5, .long w, .ref 6, .ref 7, .ref 8, .long (a).toInt64]) : ACell), (.inr (.long, [.long 0, .long 0, .long 0, .long 0, .long 0, .long 0, .long 0, .long 0, .long 0, .long 0, .long 0, .long 0, .long 0, .long 0, .long 0, .long 0]) : ACell), (.inr (.int, [.int 0, .int 0, .int 0, .int 0, .int 0, .int 0, .int 0, .int 0, .int 0, .int 0, .int 0, .int 0, .int 0, .int 0, .int 0, .int 0]) : ACell), (.inr (.int, [.int 1, .int 2]) : ACell), (.inr (.int, [.int 0, .int 1]) : ACell), (.inr (.long, [.long 9223372036854775807, .long 9223372036854775807, .long 9223372036854775807]) : ACell), (.inr (.long, [.long 0, .long 0]) : ACell)] (Is (some (.long 9223372036854775807)) [(.inr (.int, [.int 0, .int 1]) : ACell), (.inr (.int, [.int 1, .int 1]) : ACell), (.inl (0, [.ref 3, .ref 4, .ref 0, .ref 5, .long w, .ref 6, .ref 7, .ref 8, .long (a).toInt64]) : ACell), (.inr (.long, [.long 0, .long 0, .long 0, .long 0, .long 0, .long 0, .long 0, .long 0, .long 0, .long 0, .long 0, .long 0, .long 0, .long 0, .long 0, .long 0]) : ACell), (.inr (.int, [.int 0, .int 0, .int 0, .int 0, .int 0, .int 0, .int 0, .int 0, .int 0, .int 0, .int 0, .int 0, .int 0, .int 0, .int 0, .int 0]) : ACell), (.inr (.int, [.int 1, .int 2]) : ACell), (.inr (.int, [.int 0, .int 1]) : ACell), (.inr (.long, [.long 9223372036854775807, .long 9223372036854775807, .long 9223372036854775807]) : ACell), (.inr (.long, [.long 0, .long 0]) : ACell)]) := by
  refine e9 ?_
  refine s9_0 ?_
  refine s9_1 rfl ?_
  refine s9_4 ?_
  refine s9_5 rfl ?_
  refine s9_8 ?_
  refine s9_9 1 rfl (by decide) rfl ?_
  refine s9_10 ?_
  refine s9_11 ?_
  refine s9_12 2 rfl (by decide) rfl ?_
  exact s9_13 ⟨rfl, rfl⟩
theorem own_r101 (a b c pd : Int32) (w : Int64) (ha : w < a.toInt64 - pd.toInt64) (hc : ¬ w < c.toInt64 - pd.toInt64) : M7 ⟨0, 0, 0, 0⟩ [.ref 2, .int 1, .int pd] [(.inr (.int, [.int 0, .int 1]) : ACell), (.inr (.int, [.int 1, .int 1]) : ACell), (.inl (0, [.ref 3, .ref 4, .ref 0, .ref 5, .long w, .ref 6, .ref 7, .ref 8, .long (a).toInt64]) : ACell), (.inr (.long, [.long 0, .long 0, .long 0, .long 0, .long 0, .long 0, .long 0, .long 0, .long 0, .long 0, .long 0, .long 0, .long 0, .long 0, .long 0, .long 0]) : ACell), (.inr (.int, [.int 0, .int 0, .int 0, .int 0, .int 0, .int 0, .int 0, .int 0, .int 0, .int 0, .int 0, .int 0, .int 0, .int 0, .int 0, .int 0]) : ACell), (.inr (.int, [.int 1, .int 2]) : ACell), (.inr (.int, [.int 0, .int 1]) : ACell), (.inr (.long, [.long (c).toInt64, .long (a).toInt64, .long 9223372036854775807]) : ACell), (.inr (.long, [.long 0, .long 0]) : ACell)] (Is (some (.int 0)) [(.inr (.int, [.int 0, .int 1]) : ACell), (.inr (.int, [.int 1, .int 1]) : ACell), (.inl (0, [.ref 3, .ref 4, .ref 0, .ref 5, .long w, .ref 6, .ref 7, .ref 8, .long (a).toInt64]) : ACell), (.inr (.long, [.long 0, .long 0, .long 0, .long 0, .long 0, .long 0, .long 0, .long 0, .long 0, .long 0, .long 0, .long 0, .long 0, .long 0, .long 0, .long 0]) : ACell), (.inr (.int, [.int 0, .int 0, .int 0, .int 0, .int 0, .int 0, .int 0, .int 0, .int 0, .int 0, .int 0, .int 0, .int 0, .int 0, .int 0, .int 0]) : ACell), (.inr (.int, [.int 1, .int 2]) : ACell), (.inr (.int, [.int 0, .int 1]) : ACell), (.inr (.long, [.long (c).toInt64, .long 9223372036854775807, .long 9223372036854775807]) : ACell), (.inr (.long, [.long 0, .long 0]) : ACell)]) := by
  refine e7 ?_
  refine s7_0 ?_
  refine s7_1 rfl ?_
  refine s7_2 ?_
  refine s7_3 rfl ?_
  refine s7_6 ?_
  refine s7_7 1 rfl (by decide) rfl ?_
  refine s7_8 rfl ?_
  refine s7_10 ?_
  refine s7_12 ?_
  refine s7_13 rfl ?_
  refine s7_16 ?_
  refine s7_17 1 rfl (by decide) rfl ?_
  refine s7_18 ?_
  refine s7_19 rfl ?_
  refine s7_22 ?_
  refine s7_23 1 rfl (by decide) rfl ?_
  refine s7_24 ?_
  refine s7_25 (fun h => absurd h (by decide)) (fun _ => ?_)
  refine s7_28 ?_
  refine s7_29 rfl ?_
  refine s7_32 ?_
  refine s7_34 1 rfl (by decide) rfl ?_
  refine s7_35 ?_
  refine s7_38c (fun h => absurd h (own_ne _)) (fun _ => ?_)
  refine s7_42 ?_
  refine s7_43 rfl ?_
  refine s7_46 ?_
  refine s7_48 1 rfl (by decide) rfl ?_
  refine s7_49 ?_
  refine s7_50 ?_
  refine s7_51 ?_
  refine s7_52 ?_
  refine s7_53 rfl ?_
  refine s7_56c (fun h => absurd ha h) (fun _ => ?_)
  refine s7_60 ?_
  refine s7_61 rfl ?_
  refine s7_64 ?_
  refine s7_66 ?_
  refine s7_69 1 rfl (by decide) rfl ?_
  refine s7_70 ?_
  refine s7_71 ?_
  refine s7_72 rfl ?_
  refine s7_75 ?_
  refine s7_77 1 rfl (by decide) rfl ?_
  refine s7_78 ?_
  refine s7_81c (fun _ => ?_) (fun h => absurd h (by decide))
  refine s7_89 ?_
  refine s7_90 ?_
  refine s7_91 rfl ?_
  refine s7_92 ?_
  refine s7_95 ?_
  refine s7_10 ?_
  refine s7_12 ?_
  refine s7_13 rfl ?_
  refine s7_16 ?_
  refine s7_17 1 rfl (by decide) rfl ?_
  refine s7_18 ?_
  refine s7_19 rfl ?_
  refine s7_22 ?_
  refine s7_23 1 rfl (by decide) rfl ?_
  refine s7_24 ?_
  refine s7_25 (fun h => absurd h (by decide)) (fun _ => ?_)
  refine s7_28 ?_
  refine s7_29 rfl ?_
  refine s7_32 ?_
  refine s7_34 2 rfl (by decide) rfl ?_
  refine s7_35 ?_
  refine s7_38c (fun _ => ?_) (fun h => absurd h (by decide))
  refine s7_70 ?_
  refine s7_71 ?_
  refine s7_72 rfl ?_
  refine s7_75 ?_
  refine s7_77 2 rfl (by decide) rfl ?_
  refine s7_78 ?_
  refine s7_81c (fun _ => ?_) (fun h => absurd h (by decide))
  refine s7_89 ?_
  refine s7_90 ?_
  refine s7_91 rfl ?_
  refine s7_92 ?_
  refine s7_95 ?_
  refine s7_10 ?_
  refine s7_12 ?_
  refine s7_13 rfl ?_
  refine s7_16 ?_
  refine s7_17 1 rfl (by decide) rfl ?_
  refine s7_18 ?_
  refine s7_19 rfl ?_
  refine s7_22 ?_
  refine s7_23 1 rfl (by decide) rfl ?_
  refine s7_24 ?_
  refine s7_25 (fun _ => ?_) (fun h => absurd h (by decide))
  refine s7_98 ?_
  exact s7_99 ⟨rfl, rfl⟩
theorem own_r103 (a b c pd : Int32) (w : Int64) : M9 ⟨0, 0, 0, 0⟩ [.ref 2, .int 0, .int 0] [(.inr (.int, [.int 0, .int 1]) : ACell), (.inr (.int, [.int 1, .int 1]) : ACell), (.inl (0, [.ref 3, .ref 4, .ref 0, .ref 5, .long w, .ref 6, .ref 7, .ref 8, .long (a).toInt64]) : ACell), (.inr (.long, [.long 0, .long 0, .long 0, .long 0, .long 0, .long 0, .long 0, .long 0, .long 0, .long 0, .long 0, .long 0, .long 0, .long 0, .long 0, .long 0]) : ACell), (.inr (.int, [.int 0, .int 0, .int 0, .int 0, .int 0, .int 0, .int 0, .int 0, .int 0, .int 0, .int 0, .int 0, .int 0, .int 0, .int 0, .int 0]) : ACell), (.inr (.int, [.int 1, .int 2]) : ACell), (.inr (.int, [.int 0, .int 1]) : ACell), (.inr (.long, [.long (c).toInt64, .long 9223372036854775807, .long 9223372036854775807]) : ACell), (.inr (.long, [.long 0, .long 0]) : ACell)] (Is (some (.long (c).toInt64)) [(.inr (.int, [.int 0, .int 1]) : ACell), (.inr (.int, [.int 1, .int 1]) : ACell), (.inl (0, [.ref 3, .ref 4, .ref 0, .ref 5, .long w, .ref 6, .ref 7, .ref 8, .long (a).toInt64]) : ACell), (.inr (.long, [.long 0, .long 0, .long 0, .long 0, .long 0, .long 0, .long 0, .long 0, .long 0, .long 0, .long 0, .long 0, .long 0, .long 0, .long 0, .long 0]) : ACell), (.inr (.int, [.int 0, .int 0, .int 0, .int 0, .int 0, .int 0, .int 0, .int 0, .int 0, .int 0, .int 0, .int 0, .int 0, .int 0, .int 0, .int 0]) : ACell), (.inr (.int, [.int 1, .int 2]) : ACell), (.inr (.int, [.int 0, .int 1]) : ACell), (.inr (.long, [.long (c).toInt64, .long 9223372036854775807, .long 9223372036854775807]) : ACell), (.inr (.long, [.long 0, .long 0]) : ACell)]) := by
  refine e9 ?_
  refine s9_0 ?_
  refine s9_1 rfl ?_
  refine s9_4 ?_
  refine s9_5 rfl ?_
  refine s9_8 ?_
  refine s9_9 0 rfl (by decide) rfl ?_
  refine s9_10 ?_
  refine s9_11 ?_
  refine s9_12 0 rfl (by decide) rfl ?_
  exact s9_13 ⟨rfl, rfl⟩
theorem own_r104 (a b c pd : Int32) (w : Int64) : M9 ⟨0, 0, 0, 0⟩ [.ref 2, .int 1, .int 0] [(.inr (.int, [.int 0, .int 1]) : ACell), (.inr (.int, [.int 1, .int 1]) : ACell), (.inl (0, [.ref 3, .ref 4, .ref 0, .ref 5, .long w, .ref 6, .ref 7, .ref 8, .long (a).toInt64]) : ACell), (.inr (.long, [.long 0, .long 0, .long 0, .long 0, .long 0, .long 0, .long 0, .long 0, .long 0, .long 0, .long 0, .long 0, .long 0, .long 0, .long 0, .long 0]) : ACell), (.inr (.int, [.int 0, .int 0, .int 0, .int 0, .int 0, .int 0, .int 0, .int 0, .int 0, .int 0, .int 0, .int 0, .int 0, .int 0, .int 0, .int 0]) : ACell), (.inr (.int, [.int 1, .int 2]) : ACell), (.inr (.int, [.int 0, .int 1]) : ACell), (.inr (.long, [.long (c).toInt64, .long 9223372036854775807, .long 9223372036854775807]) : ACell), (.inr (.long, [.long 0, .long 0]) : ACell)] (Is (some (.long 9223372036854775807)) [(.inr (.int, [.int 0, .int 1]) : ACell), (.inr (.int, [.int 1, .int 1]) : ACell), (.inl (0, [.ref 3, .ref 4, .ref 0, .ref 5, .long w, .ref 6, .ref 7, .ref 8, .long (a).toInt64]) : ACell), (.inr (.long, [.long 0, .long 0, .long 0, .long 0, .long 0, .long 0, .long 0, .long 0, .long 0, .long 0, .long 0, .long 0, .long 0, .long 0, .long 0, .long 0]) : ACell), (.inr (.int, [.int 0, .int 0, .int 0, .int 0, .int 0, .int 0, .int 0, .int 0, .int 0, .int 0, .int 0, .int 0, .int 0, .int 0, .int 0, .int 0]) : ACell), (.inr (.int, [.int 1, .int 2]) : ACell), (.inr (.int, [.int 0, .int 1]) : ACell), (.inr (.long, [.long (c).toInt64, .long 9223372036854775807, .long 9223372036854775807]) : ACell), (.inr (.long, [.long 0, .long 0]) : ACell)]) := by
  refine e9 ?_
  refine s9_0 ?_
  refine s9_1 rfl ?_
  refine s9_4 ?_
  refine s9_5 rfl ?_
  refine s9_8 ?_
  refine s9_9 1 rfl (by decide) rfl ?_
  refine s9_10 ?_
  refine s9_11 ?_
  refine s9_12 1 rfl (by decide) rfl ?_
  exact s9_13 ⟨rfl, rfl⟩
theorem own_r105 (a b c pd : Int32) (w : Int64) : M9 ⟨0, 0, 0, 0⟩ [.ref 2, .int 1, .int 1] [(.inr (.int, [.int 0, .int 1]) : ACell), (.inr (.int, [.int 1, .int 1]) : ACell), (.inl (0, [.ref 3, .ref 4, .ref 0, .ref 5, .long w, .ref 6, .ref 7, .ref 8, .long (a).toInt64]) : ACell), (.inr (.long, [.long 0, .long 0, .long 0, .long 0, .long 0, .long 0, .long 0, .long 0, .long 0, .long 0, .long 0, .long 0, .long 0, .long 0, .long 0, .long 0]) : ACell), (.inr (.int, [.int 0, .int 0, .int 0, .int 0, .int 0, .int 0, .int 0, .int 0, .int 0, .int 0, .int 0, .int 0, .int 0, .int 0, .int 0, .int 0]) : ACell), (.inr (.int, [.int 1, .int 2]) : ACell), (.inr (.int, [.int 0, .int 1]) : ACell), (.inr (.long, [.long (c).toInt64, .long 9223372036854775807, .long 9223372036854775807]) : ACell), (.inr (.long, [.long 0, .long 0]) : ACell)] (Is (some (.long 9223372036854775807)) [(.inr (.int, [.int 0, .int 1]) : ACell), (.inr (.int, [.int 1, .int 1]) : ACell), (.inl (0, [.ref 3, .ref 4, .ref 0, .ref 5, .long w, .ref 6, .ref 7, .ref 8, .long (a).toInt64]) : ACell), (.inr (.long, [.long 0, .long 0, .long 0, .long 0, .long 0, .long 0, .long 0, .long 0, .long 0, .long 0, .long 0, .long 0, .long 0, .long 0, .long 0, .long 0]) : ACell), (.inr (.int, [.int 0, .int 0, .int 0, .int 0, .int 0, .int 0, .int 0, .int 0, .int 0, .int 0, .int 0, .int 0, .int 0, .int 0, .int 0, .int 0]) : ACell), (.inr (.int, [.int 1, .int 2]) : ACell), (.inr (.int, [.int 0, .int 1]) : ACell), (.inr (.long, [.long (c).toInt64, .long 9223372036854775807, .long 9223372036854775807]) : ACell), (.inr (.long, [.long 0, .long 0]) : ACell)]) := by
  refine e9 ?_
  refine s9_0 ?_
  refine s9_1 rfl ?_
  refine s9_4 ?_
  refine s9_5 rfl ?_
  refine s9_8 ?_
  refine s9_9 1 rfl (by decide) rfl ?_
  refine s9_10 ?_
  refine s9_11 ?_
  refine s9_12 2 rfl (by decide) rfl ?_
  exact s9_13 ⟨rfl, rfl⟩
theorem own_r106 (a b c pd : Int32) (w : Int64) (ha : w < a.toInt64 - pd.toInt64) (hc : w < c.toInt64 - pd.toInt64) : M7 ⟨0, 0, 0, 0⟩ [.ref 2, .int 1, .int pd] [(.inr (.int, [.int 0, .int 1]) : ACell), (.inr (.int, [.int 1, .int 1]) : ACell), (.inl (0, [.ref 3, .ref 4, .ref 0, .ref 5, .long w, .ref 6, .ref 7, .ref 8, .long (a).toInt64]) : ACell), (.inr (.long, [.long 0, .long 0, .long 0, .long 0, .long 0, .long 0, .long 0, .long 0, .long 0, .long 0, .long 0, .long 0, .long 0, .long 0, .long 0, .long 0]) : ACell), (.inr (.int, [.int 0, .int 0, .int 0, .int 0, .int 0, .int 0, .int 0, .int 0, .int 0, .int 0, .int 0, .int 0, .int 0, .int 0, .int 0, .int 0]) : ACell), (.inr (.int, [.int 1, .int 2]) : ACell), (.inr (.int, [.int 0, .int 1]) : ACell), (.inr (.long, [.long (c).toInt64, .long (a).toInt64, .long 9223372036854775807]) : ACell), (.inr (.long, [.long 0, .long 0]) : ACell)] (Is (some (.int 0)) [(.inr (.int, [.int 0, .int 1]) : ACell), (.inr (.int, [.int 1, .int 1]) : ACell), (.inl (0, [.ref 3, .ref 4, .ref 0, .ref 5, .long w, .ref 6, .ref 7, .ref 8, .long (a).toInt64]) : ACell), (.inr (.long, [.long 0, .long 0, .long 0, .long 0, .long 0, .long 0, .long 0, .long 0, .long 0, .long 0, .long 0, .long 0, .long 0, .long 0, .long 0, .long 0]) : ACell), (.inr (.int, [.int 0, .int 0, .int 0, .int 0, .int 0, .int 0, .int 0, .int 0, .int 0, .int 0, .int 0, .int 0, .int 0, .int 0, .int 0, .int 0]) : ACell), (.inr (.int, [.int 1, .int 2]) : ACell), (.inr (.int, [.int 0, .int 1]) : ACell), (.inr (.long, [.long (c).toInt64, .long 9223372036854775807, .long 9223372036854775807]) : ACell), (.inr (.long, [.long 0, .long 0]) : ACell)]) := by
  refine e7 ?_
  refine s7_0 ?_
  refine s7_1 rfl ?_
  refine s7_2 ?_
  refine s7_3 rfl ?_
  refine s7_6 ?_
  refine s7_7 1 rfl (by decide) rfl ?_
  refine s7_8 rfl ?_
  refine s7_10 ?_
  refine s7_12 ?_
  refine s7_13 rfl ?_
  refine s7_16 ?_
  refine s7_17 1 rfl (by decide) rfl ?_
  refine s7_18 ?_
  refine s7_19 rfl ?_
  refine s7_22 ?_
  refine s7_23 1 rfl (by decide) rfl ?_
  refine s7_24 ?_
  refine s7_25 (fun h => absurd h (by decide)) (fun _ => ?_)
  refine s7_28 ?_
  refine s7_29 rfl ?_
  refine s7_32 ?_
  refine s7_34 1 rfl (by decide) rfl ?_
  refine s7_35 ?_
  refine s7_38c (fun h => absurd h (own_ne _)) (fun _ => ?_)
  refine s7_42 ?_
  refine s7_43 rfl ?_
  refine s7_46 ?_
  refine s7_48 1 rfl (by decide) rfl ?_
  refine s7_49 ?_
  refine s7_50 ?_
  refine s7_51 ?_
  refine s7_52 ?_
  refine s7_53 rfl ?_
  refine s7_56c (fun h => absurd ha h) (fun _ => ?_)
  refine s7_60 ?_
  refine s7_61 rfl ?_
  refine s7_64 ?_
  refine s7_66 ?_
  refine s7_69 1 rfl (by decide) rfl ?_
  refine s7_70 ?_
  refine s7_71 ?_
  refine s7_72 rfl ?_
  refine s7_75 ?_
  refine s7_77 1 rfl (by decide) rfl ?_
  refine s7_78 ?_
  refine s7_81c (fun _ => ?_) (fun h => absurd h (by decide))
  refine s7_89 ?_
  refine s7_90 ?_
  refine s7_91 rfl ?_
  refine s7_92 ?_
  refine s7_95 ?_
  refine s7_10 ?_
  refine s7_12 ?_
  refine s7_13 rfl ?_
  refine s7_16 ?_
  refine s7_17 1 rfl (by decide) rfl ?_
  refine s7_18 ?_
  refine s7_19 rfl ?_
  refine s7_22 ?_
  refine s7_23 1 rfl (by decide) rfl ?_
  refine s7_24 ?_
  refine s7_25 (fun h => absurd h (by decide)) (fun _ => ?_)
  refine s7_28 ?_
  refine s7_29 rfl ?_
  refine s7_32 ?_
  refine s7_34 2 rfl (by decide) rfl ?_
  refine s7_35 ?_
  refine s7_38c (fun _ => ?_) (fun h => absurd h (by decide))
  refine s7_70 ?_
  refine s7_71 ?_
  refine s7_72 rfl ?_
  refine s7_75 ?_
  refine s7_77 2 rfl (by decide) rfl ?_
  refine s7_78 ?_
  refine s7_81c (fun _ => ?_) (fun h => absurd h (by decide))
  refine s7_89 ?_
  refine s7_90 ?_
  refine s7_91 rfl ?_
  refine s7_92 ?_
  refine s7_95 ?_
  refine s7_10 ?_
  refine s7_12 ?_
  refine s7_13 rfl ?_
  refine s7_16 ?_
  refine s7_17 1 rfl (by decide) rfl ?_
  refine s7_18 ?_
  refine s7_19 rfl ?_
  refine s7_22 ?_
  refine s7_23 1 rfl (by decide) rfl ?_
  refine s7_24 ?_
  refine s7_25 (fun _ => ?_) (fun h => absurd h (by decide))
  refine s7_98 ?_
  exact s7_99 ⟨rfl, rfl⟩
theorem own_r108 (a b c pd : Int32) (w : Int64) (ha : w < a.toInt64 - pd.toInt64) (hb : ¬ w < b.toInt64 - pd.toInt64) : M7 ⟨0, 0, 0, 0⟩ [.ref 2, .int 1, .int pd] [(.inr (.int, [.int 0, .int 1]) : ACell), (.inr (.int, [.int 1, .int 1]) : ACell), (.inl (0, [.ref 3, .ref 4, .ref 0, .ref 5, .long w, .ref 6, .ref 7, .ref 8, .long (b).toInt64]) : ACell), (.inr (.long, [.long 0, .long 0, .long 0, .long 0, .long 0, .long 0, .long 0, .long 0, .long 0, .long 0, .long 0, .long 0, .long 0, .long 0, .long 0, .long 0]) : ACell), (.inr (.int, [.int 0, .int 0, .int 0, .int 0, .int 0, .int 0, .int 0, .int 0, .int 0, .int 0, .int 0, .int 0, .int 0, .int 0, .int 0, .int 0]) : ACell), (.inr (.int, [.int 1, .int 2]) : ACell), (.inr (.int, [.int 0, .int 1]) : ACell), (.inr (.long, [.long 9223372036854775807, .long (a).toInt64, .long (b).toInt64]) : ACell), (.inr (.long, [.long 0, .long 0]) : ACell)] (Is (some (.int 1)) [(.inr (.int, [.int 0, .int 1]) : ACell), (.inr (.int, [.int 1, .int 1]) : ACell), (.inl (0, [.ref 3, .ref 4, .ref 0, .ref 5, .long w, .ref 6, .ref 7, .ref 8, .long (b).toInt64]) : ACell), (.inr (.long, [.long 0, .long 0, .long 0, .long 0, .long 0, .long 0, .long 0, .long 0, .long 0, .long 0, .long 0, .long 0, .long 0, .long 0, .long 0, .long 0]) : ACell), (.inr (.int, [.int 0, .int 0, .int 0, .int 0, .int 0, .int 0, .int 0, .int 0, .int 0, .int 0, .int 0, .int 0, .int 0, .int 0, .int 0, .int 0]) : ACell), (.inr (.int, [.int 1, .int 2]) : ACell), (.inr (.int, [.int 0, .int 1]) : ACell), (.inr (.long, [.long 9223372036854775807, .long 9223372036854775807, .long (b).toInt64]) : ACell), (.inr (.long, [.long 0, .long 0]) : ACell)]) := by
  refine e7 ?_
  refine s7_0 ?_
  refine s7_1 rfl ?_
  refine s7_2 ?_
  refine s7_3 rfl ?_
  refine s7_6 ?_
  refine s7_7 1 rfl (by decide) rfl ?_
  refine s7_8 rfl ?_
  refine s7_10 ?_
  refine s7_12 ?_
  refine s7_13 rfl ?_
  refine s7_16 ?_
  refine s7_17 1 rfl (by decide) rfl ?_
  refine s7_18 ?_
  refine s7_19 rfl ?_
  refine s7_22 ?_
  refine s7_23 1 rfl (by decide) rfl ?_
  refine s7_24 ?_
  refine s7_25 (fun h => absurd h (by decide)) (fun _ => ?_)
  refine s7_28 ?_
  refine s7_29 rfl ?_
  refine s7_32 ?_
  refine s7_34 1 rfl (by decide) rfl ?_
  refine s7_35 ?_
  refine s7_38c (fun h => absurd h (own_ne _)) (fun _ => ?_)
  refine s7_42 ?_
  refine s7_43 rfl ?_
  refine s7_46 ?_
  refine s7_48 1 rfl (by decide) rfl ?_
  refine s7_49 ?_
  refine s7_50 ?_
  refine s7_51 ?_
  refine s7_52 ?_
  refine s7_53 rfl ?_
  refine s7_56c (fun h => absurd ha h) (fun _ => ?_)
  refine s7_60 ?_
  refine s7_61 rfl ?_
  refine s7_64 ?_
  refine s7_66 ?_
  refine s7_69 1 rfl (by decide) rfl ?_
  refine s7_70 ?_
  refine s7_71 ?_
  refine s7_72 rfl ?_
  refine s7_75 ?_
  refine s7_77 1 rfl (by decide) rfl ?_
  refine s7_78 ?_
  refine s7_81c (fun _ => ?_) (fun h => absurd h (by decide))
  refine s7_89 ?_
  refine s7_90 ?_
  refine s7_91 rfl ?_
  refine s7_92 ?_
  refine s7_95 ?_
  refine s7_10 ?_
  refine s7_12 ?_
  refine s7_13 rfl ?_
  refine s7_16 ?_
  refine s7_17 1 rfl (by decide) rfl ?_
  refine s7_18 ?_
  refine s7_19 rfl ?_
  refine s7_22 ?_
  refine s7_23 1 rfl (by decide) rfl ?_
  refine s7_24 ?_
  refine s7_25 (fun h => absurd h (by decide)) (fun _ => ?_)
  refine s7_28 ?_
  refine s7_29 rfl ?_
  refine s7_32 ?_
  refine s7_34 2 rfl (by decide) rfl ?_
  refine s7_35 ?_
  refine s7_38c (fun h => absurd h (own_ne _)) (fun _ => ?_)
  refine s7_42 ?_
  refine s7_43 rfl ?_
  refine s7_46 ?_
  refine s7_48 2 rfl (by decide) rfl ?_
  refine s7_49 ?_
  refine s7_50 ?_
  refine s7_51 ?_
  refine s7_52 ?_
  refine s7_53 rfl ?_
  refine s7_56c (fun _ => ?_) (fun h => absurd h hb)
  refine s7_70 ?_
  refine s7_71 ?_
  refine s7_72 rfl ?_
  refine s7_75 ?_
  refine s7_77 2 rfl (by decide) rfl ?_
  refine s7_78 ?_
  refine s7_81c (fun h => absurd h (own_ne _)) (fun _ => ?_)
  refine s7_85 ?_
  refine s7_86 ?_
  refine s7_90 ?_
  refine s7_91 rfl ?_
  refine s7_92 ?_
  refine s7_95 ?_
  refine s7_10 ?_
  refine s7_12 ?_
  refine s7_13 rfl ?_
  refine s7_16 ?_
  refine s7_17 1 rfl (by decide) rfl ?_
  refine s7_18 ?_
  refine s7_19 rfl ?_
  refine s7_22 ?_
  refine s7_23 1 rfl (by decide) rfl ?_
  refine s7_24 ?_
  refine s7_25 (fun _ => ?_) (fun h => absurd h (by decide))
  refine s7_98 ?_
  exact s7_99 ⟨rfl, rfl⟩
theorem own_r110 (a b c pd : Int32) (w : Int64) (ha : w < a.toInt64 - pd.toInt64) (hb : ¬ w < b.toInt64 - pd.toInt64) (hc : ¬ w < c.toInt64 - pd.toInt64) : M7 ⟨0, 0, 0, 0⟩ [.ref 2, .int 1, .int pd] [(.inr (.int, [.int 0, .int 1]) : ACell), (.inr (.int, [.int 1, .int 1]) : ACell), (.inl (0, [.ref 3, .ref 4, .ref 0, .ref 5, .long w, .ref 6, .ref 7, .ref 8, .long (b).toInt64]) : ACell), (.inr (.long, [.long 0, .long 0, .long 0, .long 0, .long 0, .long 0, .long 0, .long 0, .long 0, .long 0, .long 0, .long 0, .long 0, .long 0, .long 0, .long 0]) : ACell), (.inr (.int, [.int 0, .int 0, .int 0, .int 0, .int 0, .int 0, .int 0, .int 0, .int 0, .int 0, .int 0, .int 0, .int 0, .int 0, .int 0, .int 0]) : ACell), (.inr (.int, [.int 1, .int 2]) : ACell), (.inr (.int, [.int 0, .int 1]) : ACell), (.inr (.long, [.long (c).toInt64, .long (a).toInt64, .long (b).toInt64]) : ACell), (.inr (.long, [.long 0, .long 0]) : ACell)] (Is (some (.int 1)) [(.inr (.int, [.int 0, .int 1]) : ACell), (.inr (.int, [.int 1, .int 1]) : ACell), (.inl (0, [.ref 3, .ref 4, .ref 0, .ref 5, .long w, .ref 6, .ref 7, .ref 8, .long (b).toInt64]) : ACell), (.inr (.long, [.long 0, .long 0, .long 0, .long 0, .long 0, .long 0, .long 0, .long 0, .long 0, .long 0, .long 0, .long 0, .long 0, .long 0, .long 0, .long 0]) : ACell), (.inr (.int, [.int 0, .int 0, .int 0, .int 0, .int 0, .int 0, .int 0, .int 0, .int 0, .int 0, .int 0, .int 0, .int 0, .int 0, .int 0, .int 0]) : ACell), (.inr (.int, [.int 1, .int 2]) : ACell), (.inr (.int, [.int 0, .int 1]) : ACell), (.inr (.long, [.long (c).toInt64, .long 9223372036854775807, .long (b).toInt64]) : ACell), (.inr (.long, [.long 0, .long 0]) : ACell)]) := by
  refine e7 ?_
  refine s7_0 ?_
  refine s7_1 rfl ?_
  refine s7_2 ?_
  refine s7_3 rfl ?_
  refine s7_6 ?_
  refine s7_7 1 rfl (by decide) rfl ?_
  refine s7_8 rfl ?_
  refine s7_10 ?_
  refine s7_12 ?_
  refine s7_13 rfl ?_
  refine s7_16 ?_
  refine s7_17 1 rfl (by decide) rfl ?_
  refine s7_18 ?_
  refine s7_19 rfl ?_
  refine s7_22 ?_
  refine s7_23 1 rfl (by decide) rfl ?_
  refine s7_24 ?_
  refine s7_25 (fun h => absurd h (by decide)) (fun _ => ?_)
  refine s7_28 ?_
  refine s7_29 rfl ?_
  refine s7_32 ?_
  refine s7_34 1 rfl (by decide) rfl ?_
  refine s7_35 ?_
  refine s7_38c (fun h => absurd h (own_ne _)) (fun _ => ?_)
  refine s7_42 ?_
  refine s7_43 rfl ?_
  refine s7_46 ?_
  refine s7_48 1 rfl (by decide) rfl ?_
  refine s7_49 ?_
  refine s7_50 ?_
  refine s7_51 ?_
  refine s7_52 ?_
  refine s7_53 rfl ?_
  refine s7_56c (fun h => absurd ha h) (fun _ => ?_)
  refine s7_60 ?_
  refine s7_61 rfl ?_
  refine s7_64 ?_
  refine s7_66 ?_
  refine s7_69 1 rfl (by decide) rfl ?_
  refine s7_70 ?_
  refine s7_71 ?_
  refine s7_72 rfl ?_
  refine s7_75 ?_
  refine s7_77 1 rfl (by decide) rfl ?_
  refine s7_78 ?_
  refine s7_81c (fun _ => ?_) (fun h => absurd h (by decide))
  refine s7_89 ?_
  refine s7_90 ?_
  refine s7_91 rfl ?_
  refine s7_92 ?_
  refine s7_95 ?_
  refine s7_10 ?_
  refine s7_12 ?_
  refine s7_13 rfl ?_
  refine s7_16 ?_
  refine s7_17 1 rfl (by decide) rfl ?_
  refine s7_18 ?_
  refine s7_19 rfl ?_
  refine s7_22 ?_
  refine s7_23 1 rfl (by decide) rfl ?_
  refine s7_24 ?_
  refine s7_25 (fun h => absurd h (by decide)) (fun _ => ?_)
  refine s7_28 ?_
  refine s7_29 rfl ?_
  refine s7_32 ?_
  refine s7_34 2 rfl (by decide) rfl ?_
  refine s7_35 ?_
  refine s7_38c (fun h => absurd h (own_ne _)) (fun _ => ?_)
  refine s7_42 ?_
  refine s7_43 rfl ?_
  refine s7_46 ?_
  refine s7_48 2 rfl (by decide) rfl ?_
  refine s7_49 ?_
  refine s7_50 ?_
  refine s7_51 ?_
  refine s7_52 ?_
  refine s7_53 rfl ?_
  refine s7_56c (fun _ => ?_) (fun h => absurd h hb)
  refine s7_70 ?_
  refine s7_71 ?_
  refine s7_72 rfl ?_
  refine s7_75 ?_
  refine s7_77 2 rfl (by decide) rfl ?_
  refine s7_78 ?_
  refine s7_81c (fun h => absurd h (own_ne _)) (fun _ => ?_)
  refine s7_85 ?_
  refine s7_86 ?_
  refine s7_90 ?_
  refine s7_91 rfl ?_
  refine s7_92 ?_
  refine s7_95 ?_
  refine s7_10 ?_
  refine s7_12 ?_
  refine s7_13 rfl ?_
  refine s7_16 ?_
  refine s7_17 1 rfl (by decide) rfl ?_
  refine s7_18 ?_
  refine s7_19 rfl ?_
  refine s7_22 ?_
  refine s7_23 1 rfl (by decide) rfl ?_
  refine s7_24 ?_
  refine s7_25 (fun _ => ?_) (fun h => absurd h (by decide))
  refine s7_98 ?_
  exact s7_99 ⟨rfl, rfl⟩
theorem own_r112 (a b c pd : Int32) (w : Int64) (ha : w < a.toInt64 - pd.toInt64) (hb : ¬ w < b.toInt64 - pd.toInt64) (hc : w < c.toInt64 - pd.toInt64) : M7 ⟨0, 0, 0, 0⟩ [.ref 2, .int 1, .int pd] [(.inr (.int, [.int 0, .int 1]) : ACell), (.inr (.int, [.int 1, .int 1]) : ACell), (.inl (0, [.ref 3, .ref 4, .ref 0, .ref 5, .long w, .ref 6, .ref 7, .ref 8, .long (b).toInt64]) : ACell), (.inr (.long, [.long 0, .long 0, .long 0, .long 0, .long 0, .long 0, .long 0, .long 0, .long 0, .long 0, .long 0, .long 0, .long 0, .long 0, .long 0, .long 0]) : ACell), (.inr (.int, [.int 0, .int 0, .int 0, .int 0, .int 0, .int 0, .int 0, .int 0, .int 0, .int 0, .int 0, .int 0, .int 0, .int 0, .int 0, .int 0]) : ACell), (.inr (.int, [.int 1, .int 2]) : ACell), (.inr (.int, [.int 0, .int 1]) : ACell), (.inr (.long, [.long (c).toInt64, .long (a).toInt64, .long (b).toInt64]) : ACell), (.inr (.long, [.long 0, .long 0]) : ACell)] (Is (some (.int 1)) [(.inr (.int, [.int 0, .int 1]) : ACell), (.inr (.int, [.int 1, .int 1]) : ACell), (.inl (0, [.ref 3, .ref 4, .ref 0, .ref 5, .long w, .ref 6, .ref 7, .ref 8, .long (b).toInt64]) : ACell), (.inr (.long, [.long 0, .long 0, .long 0, .long 0, .long 0, .long 0, .long 0, .long 0, .long 0, .long 0, .long 0, .long 0, .long 0, .long 0, .long 0, .long 0]) : ACell), (.inr (.int, [.int 0, .int 0, .int 0, .int 0, .int 0, .int 0, .int 0, .int 0, .int 0, .int 0, .int 0, .int 0, .int 0, .int 0, .int 0, .int 0]) : ACell), (.inr (.int, [.int 1, .int 2]) : ACell), (.inr (.int, [.int 0, .int 1]) : ACell), (.inr (.long, [.long (c).toInt64, .long 9223372036854775807, .long (b).toInt64]) : ACell), (.inr (.long, [.long 0, .long 0]) : ACell)]) := by
  refine e7 ?_
  refine s7_0 ?_
  refine s7_1 rfl ?_
  refine s7_2 ?_
  refine s7_3 rfl ?_
  refine s7_6 ?_
  refine s7_7 1 rfl (by decide) rfl ?_
  refine s7_8 rfl ?_
  refine s7_10 ?_
  refine s7_12 ?_
  refine s7_13 rfl ?_
  refine s7_16 ?_
  refine s7_17 1 rfl (by decide) rfl ?_
  refine s7_18 ?_
  refine s7_19 rfl ?_
  refine s7_22 ?_
  refine s7_23 1 rfl (by decide) rfl ?_
  refine s7_24 ?_
  refine s7_25 (fun h => absurd h (by decide)) (fun _ => ?_)
  refine s7_28 ?_
  refine s7_29 rfl ?_
  refine s7_32 ?_
  refine s7_34 1 rfl (by decide) rfl ?_
  refine s7_35 ?_
  refine s7_38c (fun h => absurd h (own_ne _)) (fun _ => ?_)
  refine s7_42 ?_
  refine s7_43 rfl ?_
  refine s7_46 ?_
  refine s7_48 1 rfl (by decide) rfl ?_
  refine s7_49 ?_
  refine s7_50 ?_
  refine s7_51 ?_
  refine s7_52 ?_
  refine s7_53 rfl ?_
  refine s7_56c (fun h => absurd ha h) (fun _ => ?_)
  refine s7_60 ?_
  refine s7_61 rfl ?_
  refine s7_64 ?_
  refine s7_66 ?_
  refine s7_69 1 rfl (by decide) rfl ?_
  refine s7_70 ?_
  refine s7_71 ?_
  refine s7_72 rfl ?_
  refine s7_75 ?_
  refine s7_77 1 rfl (by decide) rfl ?_
  refine s7_78 ?_
  refine s7_81c (fun _ => ?_) (fun h => absurd h (by decide))
  refine s7_89 ?_
  refine s7_90 ?_
  refine s7_91 rfl ?_
  refine s7_92 ?_
  refine s7_95 ?_
  refine s7_10 ?_
  refine s7_12 ?_
  refine s7_13 rfl ?_
  refine s7_16 ?_
  refine s7_17 1 rfl (by decide) rfl ?_
  refine s7_18 ?_
  refine s7_19 rfl ?_
  refine s7_22 ?_
  refine s7_23 1 rfl (by decide) rfl ?_
  refine s7_24 ?_
  refine s7_25 (fun h => absurd h (by decide)) (fun _ => ?_)
  refine s7_28 ?_
  refine s7_29 rfl ?_
  refine s7_32 ?_
  refine s7_34 2 rfl (by decide) rfl ?_
  refine s7_35 ?_
  refine s7_38c (fun h => absurd h (own_ne _)) (fun _ => ?_)
  refine s7_42 ?_
  refine s7_43 rfl ?_
  refine s7_46 ?_
  refine s7_48 2 rfl (by decide) rfl ?_
  refine s7_49 ?_
  refine s7_50 ?_
  refine s7_51 ?_
  refine s7_52 ?_
  refine s7_53 rfl ?_
  refine s7_56c (fun _ => ?_) (fun h => absurd h hb)
  refine s7_70 ?_
  refine s7_71 ?_
  refine s7_72 rfl ?_
  refine s7_75 ?_
  refine s7_77 2 rfl (by decide) rfl ?_
  refine s7_78 ?_
  refine s7_81c (fun h => absurd h (own_ne _)) (fun _ => ?_)
  refine s7_85 ?_
  refine s7_86 ?_
  refine s7_90 ?_
  refine s7_91 rfl ?_
  refine s7_92 ?_
  refine s7_95 ?_
  refine s7_10 ?_
  refine s7_12 ?_
  refine s7_13 rfl ?_
  refine s7_16 ?_
  refine s7_17 1 rfl (by decide) rfl ?_
  refine s7_18 ?_
  refine s7_19 rfl ?_
  refine s7_22 ?_
  refine s7_23 1 rfl (by decide) rfl ?_
  refine s7_24 ?_
  refine s7_25 (fun _ => ?_) (fun h => absurd h (by decide))
  refine s7_98 ?_
  exact s7_99 ⟨rfl, rfl⟩
theorem own_r114 (a b c pd : Int32) (w : Int64) (ha : w < a.toInt64 - pd.toInt64) (hb : w < b.toInt64 - pd.toInt64) : M7 ⟨0, 0, 0, 0⟩ [.ref 2, .int 1, .int pd] [(.inr (.int, [.int 0, .int 1]) : ACell), (.inr (.int, [.int 1, .int 1]) : ACell), (.inl (0, [.ref 3, .ref 4, .ref 0, .ref 5, .long w, .ref 6, .ref 7, .ref 8, .long (b).toInt64]) : ACell), (.inr (.long, [.long 0, .long 0, .long 0, .long 0, .long 0, .long 0, .long 0, .long 0, .long 0, .long 0, .long 0, .long 0, .long 0, .long 0, .long 0, .long 0]) : ACell), (.inr (.int, [.int 0, .int 0, .int 0, .int 0, .int 0, .int 0, .int 0, .int 0, .int 0, .int 0, .int 0, .int 0, .int 0, .int 0, .int 0, .int 0]) : ACell), (.inr (.int, [.int 1, .int 2]) : ACell), (.inr (.int, [.int 0, .int 1]) : ACell), (.inr (.long, [.long 9223372036854775807, .long (a).toInt64, .long (b).toInt64]) : ACell), (.inr (.long, [.long 0, .long 0]) : ACell)] (Is (some (.int 0)) [(.inr (.int, [.int 0, .int 1]) : ACell), (.inr (.int, [.int 1, .int 1]) : ACell), (.inl (0, [.ref 3, .ref 4, .ref 0, .ref 5, .long w, .ref 6, .ref 7, .ref 8, .long (b).toInt64]) : ACell), (.inr (.long, [.long 0, .long 0, .long 0, .long 0, .long 0, .long 0, .long 0, .long 0, .long 0, .long 0, .long 0, .long 0, .long 0, .long 0, .long 0, .long 0]) : ACell), (.inr (.int, [.int 0, .int 0, .int 0, .int 0, .int 0, .int 0, .int 0, .int 0, .int 0, .int 0, .int 0, .int 0, .int 0, .int 0, .int 0, .int 0]) : ACell), (.inr (.int, [.int 1, .int 2]) : ACell), (.inr (.int, [.int 0, .int 1]) : ACell), (.inr (.long, [.long 9223372036854775807, .long 9223372036854775807, .long 9223372036854775807]) : ACell), (.inr (.long, [.long 0, .long 0]) : ACell)]) := by
  refine e7 ?_
  refine s7_0 ?_
  refine s7_1 rfl ?_
  refine s7_2 ?_
  refine s7_3 rfl ?_
  refine s7_6 ?_
  refine s7_7 1 rfl (by decide) rfl ?_
  refine s7_8 rfl ?_
  refine s7_10 ?_
  refine s7_12 ?_
  refine s7_13 rfl ?_
  refine s7_16 ?_
  refine s7_17 1 rfl (by decide) rfl ?_
  refine s7_18 ?_
  refine s7_19 rfl ?_
  refine s7_22 ?_
  refine s7_23 1 rfl (by decide) rfl ?_
  refine s7_24 ?_
  refine s7_25 (fun h => absurd h (by decide)) (fun _ => ?_)
  refine s7_28 ?_
  refine s7_29 rfl ?_
  refine s7_32 ?_
  refine s7_34 1 rfl (by decide) rfl ?_
  refine s7_35 ?_
  refine s7_38c (fun h => absurd h (own_ne _)) (fun _ => ?_)
  refine s7_42 ?_
  refine s7_43 rfl ?_
  refine s7_46 ?_
  refine s7_48 1 rfl (by decide) rfl ?_
  refine s7_49 ?_
  refine s7_50 ?_
  refine s7_51 ?_
  refine s7_52 ?_
  refine s7_53 rfl ?_
  refine s7_56c (fun h => absurd ha h) (fun _ => ?_)
  refine s7_60 ?_
  refine s7_61 rfl ?_
  refine s7_64 ?_
  refine s7_66 ?_
  refine s7_69 1 rfl (by decide) rfl ?_
  refine s7_70 ?_
  refine s7_71 ?_
  refine s7_72 rfl ?_
  refine s7_75 ?_
  refine s7_77 1 rfl (by decide) rfl ?_
  refine s7_78 ?_
  refine s7_81c (fun _ => ?_) (fun h => absurd h (by decide))
  refine s7_89 ?_
  refine s7_90 ?_
  refine s7_91 rfl ?_
  refine s7_92 ?_
  refine s7_95 ?_
  refine s7_10 ?_
  refine s7_12 ?_
  refine s7_13 rfl ?_
  refine s7_16 ?_
  refine s7_17 1 rfl (by decide) rfl ?_
  refine s7_18 ?_
  refine s7_19 rfl ?_
  refine s7_22 ?_
  refine s7_23 1 rfl (by decide) rfl ?_
  refine s7_24 ?_
  refine s7_25 (fun h => absurd h (by decide)) (fun _ => ?_)
  refine s7_28 ?_
  refine s7_29 rfl ?_
  refine s7_32 ?_
  refine s7_34 2 rfl (by decide) rfl ?_
  refine s7_35 ?_
  refine s7_38c (fun h => absurd h (own_ne _)) (fun _ => ?_)
  refine s7_42 ?_
  refine s7_43 rfl ?_
  refine s7_46 ?_
  refine s7_48 2 rfl (by decide) rfl ?_
  refine s7_49 ?_
  refine s7_50 ?_
  refine s7_51 ?_
  refine s7_52 ?_
  refine s7_53 rfl ?_
  refine s7_56c (fun h => absurd hb h) (fun _ => ?_)
  refine s7_60 ?_
  refine s7_61 rfl ?_
  refine s7_64 ?_
  refine s7_66 ?_
  refine s7_69 2 rfl (by decide) rfl ?_
  refine s7_70 ?_
  refine s7_71 ?_
  refine s7_72 rfl ?_
  refine s7_75 ?_
  refine s7_77 2 rfl (by decide) rfl ?_
  refine s7_78 ?_
  refine s7_81c (fun _ => ?_) (fun h => absurd h (by decide))
  refine s7_89 ?_
  refine s7_90 ?_
  refine s7_91 rfl ?_
  refine s7_92 ?_
  refine s7_95 ?_
  refine s7_10 ?_
  refine s7_12 ?_
  refine s7_13 rfl ?_
  refine s7_16 ?_
  refine s7_17 1 rfl (by decide) rfl ?_
  refine s7_18 ?_
  refine s7_19 rfl ?_
  refine s7_22 ?_
  refine s7_23 1 rfl (by decide) rfl ?_
  refine s7_24 ?_
  refine s7_25 (fun _ => ?_) (fun h => absurd h (by decide))
  refine s7_98 ?_
  exact s7_99 ⟨rfl, rfl⟩
theorem own_r116 (a b c pd : Int32) (w : Int64) (ha : w < a.toInt64 - pd.toInt64) (hb : w < b.toInt64 - pd.toInt64) (hc : ¬ w < c.toInt64 - pd.toInt64) : M7 ⟨0, 0, 0, 0⟩ [.ref 2, .int 1, .int pd] [(.inr (.int, [.int 0, .int 1]) : ACell), (.inr (.int, [.int 1, .int 1]) : ACell), (.inl (0, [.ref 3, .ref 4, .ref 0, .ref 5, .long w, .ref 6, .ref 7, .ref 8, .long (b).toInt64]) : ACell), (.inr (.long, [.long 0, .long 0, .long 0, .long 0, .long 0, .long 0, .long 0, .long 0, .long 0, .long 0, .long 0, .long 0, .long 0, .long 0, .long 0, .long 0]) : ACell), (.inr (.int, [.int 0, .int 0, .int 0, .int 0, .int 0, .int 0, .int 0, .int 0, .int 0, .int 0, .int 0, .int 0, .int 0, .int 0, .int 0, .int 0]) : ACell), (.inr (.int, [.int 1, .int 2]) : ACell), (.inr (.int, [.int 0, .int 1]) : ACell), (.inr (.long, [.long (c).toInt64, .long (a).toInt64, .long (b).toInt64]) : ACell), (.inr (.long, [.long 0, .long 0]) : ACell)] (Is (some (.int 0)) [(.inr (.int, [.int 0, .int 1]) : ACell), (.inr (.int, [.int 1, .int 1]) : ACell), (.inl (0, [.ref 3, .ref 4, .ref 0, .ref 5, .long w, .ref 6, .ref 7, .ref 8, .long (b).toInt64]) : ACell), (.inr (.long, [.long 0, .long 0, .long 0, .long 0, .long 0, .long 0, .long 0, .long 0, .long 0, .long 0, .long 0, .long 0, .long 0, .long 0, .long 0, .long 0]) : ACell), (.inr (.int, [.int 0, .int 0, .int 0, .int 0, .int 0, .int 0, .int 0, .int 0, .int 0, .int 0, .int 0, .int 0, .int 0, .int 0, .int 0, .int 0]) : ACell), (.inr (.int, [.int 1, .int 2]) : ACell), (.inr (.int, [.int 0, .int 1]) : ACell), (.inr (.long, [.long (c).toInt64, .long 9223372036854775807, .long 9223372036854775807]) : ACell), (.inr (.long, [.long 0, .long 0]) : ACell)]) := by
  refine e7 ?_
  refine s7_0 ?_
  refine s7_1 rfl ?_
  refine s7_2 ?_
  refine s7_3 rfl ?_
  refine s7_6 ?_
  refine s7_7 1 rfl (by decide) rfl ?_
  refine s7_8 rfl ?_
  refine s7_10 ?_
  refine s7_12 ?_
  refine s7_13 rfl ?_
  refine s7_16 ?_
  refine s7_17 1 rfl (by decide) rfl ?_
  refine s7_18 ?_
  refine s7_19 rfl ?_
  refine s7_22 ?_
  refine s7_23 1 rfl (by decide) rfl ?_
  refine s7_24 ?_
  refine s7_25 (fun h => absurd h (by decide)) (fun _ => ?_)
  refine s7_28 ?_
  refine s7_29 rfl ?_
  refine s7_32 ?_
  refine s7_34 1 rfl (by decide) rfl ?_
  refine s7_35 ?_
  refine s7_38c (fun h => absurd h (own_ne _)) (fun _ => ?_)
  refine s7_42 ?_
  refine s7_43 rfl ?_
  refine s7_46 ?_
  refine s7_48 1 rfl (by decide) rfl ?_
  refine s7_49 ?_
  refine s7_50 ?_
  refine s7_51 ?_
  refine s7_52 ?_
  refine s7_53 rfl ?_
  refine s7_56c (fun h => absurd ha h) (fun _ => ?_)
  refine s7_60 ?_
  refine s7_61 rfl ?_
  refine s7_64 ?_
  refine s7_66 ?_
  refine s7_69 1 rfl (by decide) rfl ?_
  refine s7_70 ?_
  refine s7_71 ?_
  refine s7_72 rfl ?_
  refine s7_75 ?_
  refine s7_77 1 rfl (by decide) rfl ?_
  refine s7_78 ?_
  refine s7_81c (fun _ => ?_) (fun h => absurd h (by decide))
  refine s7_89 ?_
  refine s7_90 ?_
  refine s7_91 rfl ?_
  refine s7_92 ?_
  refine s7_95 ?_
  refine s7_10 ?_
  refine s7_12 ?_
  refine s7_13 rfl ?_
  refine s7_16 ?_
  refine s7_17 1 rfl (by decide) rfl ?_
  refine s7_18 ?_
  refine s7_19 rfl ?_
  refine s7_22 ?_
  refine s7_23 1 rfl (by decide) rfl ?_
  refine s7_24 ?_
  refine s7_25 (fun h => absurd h (by decide)) (fun _ => ?_)
  refine s7_28 ?_
  refine s7_29 rfl ?_
  refine s7_32 ?_
  refine s7_34 2 rfl (by decide) rfl ?_
  refine s7_35 ?_
  refine s7_38c (fun h => absurd h (own_ne _)) (fun _ => ?_)
  refine s7_42 ?_
  refine s7_43 rfl ?_
  refine s7_46 ?_
  refine s7_48 2 rfl (by decide) rfl ?_
  refine s7_49 ?_
  refine s7_50 ?_
  refine s7_51 ?_
  refine s7_52 ?_
  refine s7_53 rfl ?_
  refine s7_56c (fun h => absurd hb h) (fun _ => ?_)
  refine s7_60 ?_
  refine s7_61 rfl ?_
  refine s7_64 ?_
  refine s7_66 ?_
  refine s7_69 2 rfl (by decide) rfl ?_
  refine s7_70 ?_
  refine s7_71 ?_
  refine s7_72 rfl ?_
  refine s7_75 ?_
  refine s7_77 2 rfl (by decide) rfl ?_
  refine s7_78 ?_
  refine s7_81c (fun _ => ?_) (fun h => absurd h (by decide))
  refine s7_89 ?_
  refine s7_90 ?_
  refine s7_91 rfl ?_
  refine s7_92 ?_
  refine s7_95 ?_
  refine s7_10 ?_
  refine s7_12 ?_
  refine s7_13 rfl ?_
  refine s7_16 ?_
  refine s7_17 1 rfl (by decide) rfl ?_
  refine s7_18 ?_
  refine s7_19 rfl ?_
  refine s7_22 ?_
  refine s7_23 1 rfl (by decide) rfl ?_
  refine s7_24 ?_
  refine s7_25 (fun _ => ?_) (fun h => absurd h (by decide))
  refine s7_98 ?_
  exact s7_99 ⟨rfl, rfl⟩
theorem own_r118 (a b c pd : Int32) (w : Int64) (ha : w < a.toInt64 - pd.toInt64) (hb : w < b.toInt64 - pd.toInt64) (hc : w < c.toInt64 - pd.toInt64) : M7 ⟨0, 0, 0, 0⟩ [.ref 2, .int 1, .int pd] [(.inr (.int, [.int 0, .int 1]) : ACell), (.inr (.int, [.int 1, .int 1]) : ACell), (.inl (0, [.ref 3, .ref 4, .ref 0, .ref 5, .long w, .ref 6, .ref 7, .ref 8, .long (b).toInt64]) : ACell), (.inr (.long, [.long 0, .long 0, .long 0, .long 0, .long 0, .long 0, .long 0, .long 0, .long 0, .long 0, .long 0, .long 0, .long 0, .long 0, .long 0, .long 0]) : ACell), (.inr (.int, [.int 0, .int 0, .int 0, .int 0, .int 0, .int 0, .int 0, .int 0, .int 0, .int 0, .int 0, .int 0, .int 0, .int 0, .int 0, .int 0]) : ACell), (.inr (.int, [.int 1, .int 2]) : ACell), (.inr (.int, [.int 0, .int 1]) : ACell), (.inr (.long, [.long (c).toInt64, .long (a).toInt64, .long (b).toInt64]) : ACell), (.inr (.long, [.long 0, .long 0]) : ACell)] (Is (some (.int 0)) [(.inr (.int, [.int 0, .int 1]) : ACell), (.inr (.int, [.int 1, .int 1]) : ACell), (.inl (0, [.ref 3, .ref 4, .ref 0, .ref 5, .long w, .ref 6, .ref 7, .ref 8, .long (b).toInt64]) : ACell), (.inr (.long, [.long 0, .long 0, .long 0, .long 0, .long 0, .long 0, .long 0, .long 0, .long 0, .long 0, .long 0, .long 0, .long 0, .long 0, .long 0, .long 0]) : ACell), (.inr (.int, [.int 0, .int 0, .int 0, .int 0, .int 0, .int 0, .int 0, .int 0, .int 0, .int 0, .int 0, .int 0, .int 0, .int 0, .int 0, .int 0]) : ACell), (.inr (.int, [.int 1, .int 2]) : ACell), (.inr (.int, [.int 0, .int 1]) : ACell), (.inr (.long, [.long (c).toInt64, .long 9223372036854775807, .long 9223372036854775807]) : ACell), (.inr (.long, [.long 0, .long 0]) : ACell)]) := by
  refine e7 ?_
  refine s7_0 ?_
  refine s7_1 rfl ?_
  refine s7_2 ?_
  refine s7_3 rfl ?_
  refine s7_6 ?_
  refine s7_7 1 rfl (by decide) rfl ?_
  refine s7_8 rfl ?_
  refine s7_10 ?_
  refine s7_12 ?_
  refine s7_13 rfl ?_
  refine s7_16 ?_
  refine s7_17 1 rfl (by decide) rfl ?_
  refine s7_18 ?_
  refine s7_19 rfl ?_
  refine s7_22 ?_
  refine s7_23 1 rfl (by decide) rfl ?_
  refine s7_24 ?_
  refine s7_25 (fun h => absurd h (by decide)) (fun _ => ?_)
  refine s7_28 ?_
  refine s7_29 rfl ?_
  refine s7_32 ?_
  refine s7_34 1 rfl (by decide) rfl ?_
  refine s7_35 ?_
  refine s7_38c (fun h => absurd h (own_ne _)) (fun _ => ?_)
  refine s7_42 ?_
  refine s7_43 rfl ?_
  refine s7_46 ?_
  refine s7_48 1 rfl (by decide) rfl ?_
  refine s7_49 ?_
  refine s7_50 ?_
  refine s7_51 ?_
  refine s7_52 ?_
  refine s7_53 rfl ?_
  refine s7_56c (fun h => absurd ha h) (fun _ => ?_)
  refine s7_60 ?_
  refine s7_61 rfl ?_
  refine s7_64 ?_
  refine s7_66 ?_
  refine s7_69 1 rfl (by decide) rfl ?_
  refine s7_70 ?_
  refine s7_71 ?_
  refine s7_72 rfl ?_
  refine s7_75 ?_
  refine s7_77 1 rfl (by decide) rfl ?_
  refine s7_78 ?_
  refine s7_81c (fun _ => ?_) (fun h => absurd h (by decide))
  refine s7_89 ?_
  refine s7_90 ?_
  refine s7_91 rfl ?_
  refine s7_92 ?_
  refine s7_95 ?_
  refine s7_10 ?_
  refine s7_12 ?_
  refine s7_13 rfl ?_
  refine s7_16 ?_
  refine s7_17 1 rfl (by decide) rfl ?_
  refine s7_18 ?_
  refine s7_19 rfl ?_
  refine s7_22 ?_
  refine s7_23 1 rfl (by decide) rfl ?_
  refine s7_24 ?_
  refine s7_25 (fun h => absurd h (by decide)) (fun _ => ?_)
  refine s7_28 ?_
  refine s7_29 rfl ?_
  refine s7_32 ?_
  refine s7_34 2 rfl (by decide) rfl ?_
  refine s7_35 ?_
  refine s7_38c (fun h => absurd h (own_ne _)) (fun _ => ?_)
  refine s7_42 ?_
  refine s7_43 rfl ?_
  refine s7_46 ?_
  refine s7_48 2 rfl (by decide) rfl ?_
  refine s7_49 ?_
  refine s7_50 ?_
  refine s7_51 ?_
  refine s7_52 ?_
  refine s7_53 rfl ?_
  refine s7_56c (fun h => absurd hb h) (fun _ => ?_)
  refine s7_60 ?_
  refine s7_61 rfl ?_
  refine s7_64 ?_
  refine s7_66 ?_
  refine s7_69 2 rfl (by decide) rfl ?_
  refine s7_70 ?_
  refine s7_71 ?_
  refine s7_72 rfl ?_
  refine s7_75 ?_
  refine s7_77 2 rfl (by decide) rfl ?_
  refine s7_78 ?_
  refine s7_81c (fun _ => ?_) (fun h => absurd h (by decide))
  refine s7_89 ?_
  refine s7_90 ?_
  refine s7_91 rfl ?_
  refine s7_92 ?_
  refine s7_95 ?_
  refine s7_10 ?_
  refine s7_12 ?_
  refine s7_13 rfl ?_
  refine s7_16 ?_
  refine s7_17 1 rfl (by decide) rfl ?_
  refine s7_18 ?_
  refine s7_19 rfl ?_
  refine s7_22 ?_
  refine s7_23 1 rfl (by decide) rfl ?_
  refine s7_24 ?_
  refine s7_25 (fun _ => ?_) (fun h => absurd h (by decide))
  refine s7_98 ?_
  exact s7_99 ⟨rfl, rfl⟩
theorem own_r120 (a b c pd : Int32) (w : Int64) : M7 ⟨0, 0, 0, 0⟩ [.ref 2, .int 0, .int pd] [(.inr (.int, [.int 0, .int 1]) : ACell), (.inr (.int, [.int 1, .int 1]) : ACell), (.inl (0, [.ref 3, .ref 4, .ref 0, .ref 5, .long w, .ref 6, .ref 7, .ref 8, .long 0]) : ACell), (.inr (.long, [.long 0, .long 0, .long 0, .long 0, .long 0, .long 0, .long 0, .long 0, .long 0, .long 0, .long 0, .long 0, .long 0, .long 0, .long 0, .long 0]) : ACell), (.inr (.int, [.int 0, .int 0, .int 0, .int 0, .int 0, .int 0, .int 0, .int 0, .int 0, .int 0, .int 0, .int 0, .int 0, .int 0, .int 0, .int 0]) : ACell), (.inr (.int, [.int 1, .int 2]) : ACell), (.inr (.int, [.int 0, .int 1]) : ACell), (.inr (.long, [.long 9223372036854775807, .long 9223372036854775807, .long 9223372036854775807]) : ACell), (.inr (.long, [.long 0, .long 0]) : ACell)] (Is (some (.int 0)) [(.inr (.int, [.int 0, .int 1]) : ACell), (.inr (.int, [.int 1, .int 1]) : ACell), (.inl (0, [.ref 3, .ref 4, .ref 0, .ref 5, .long w, .ref 6, .ref 7, .ref 8, .long 0]) : ACell), (.inr (.long, [.long 0, .long 0, .long 0, .long 0, .long 0, .long 0, .long 0, .long 0, .long 0, .long 0, .long 0, .long 0, .long 0, .long 0, .long 0, .long 0]) : ACell), (.inr (.int, [.int 0, .int 0, .int 0, .int 0, .int 0, .int 0, .int 0, .int 0, .int 0, .int 0, .int 0, .int 0, .int 0, .int 0, .int 0, .int 0]) : ACell), (.inr (.int, [.int 1, .int 2]) : ACell), (.inr (.int, [.int 0, .int 1]) : ACell), (.inr (.long, [.long 9223372036854775807, .long 9223372036854775807, .long 9223372036854775807]) : ACell), (.inr (.long, [.long 0, .long 0]) : ACell)]) := by
  refine e7 ?_
  refine s7_0 ?_
  refine s7_1 rfl ?_
  refine s7_2 ?_
  refine s7_3 rfl ?_
  refine s7_6 ?_
  refine s7_7 0 rfl (by decide) rfl ?_
  refine s7_8 rfl ?_
  refine s7_10 ?_
  refine s7_12 ?_
  refine s7_13 rfl ?_
  refine s7_16 ?_
  refine s7_17 0 rfl (by decide) rfl ?_
  refine s7_18 ?_
  refine s7_19 rfl ?_
  refine s7_22 ?_
  refine s7_23 0 rfl (by decide) rfl ?_
  refine s7_24 ?_
  refine s7_25 (fun h => absurd h (by decide)) (fun _ => ?_)
  refine s7_28 ?_
  refine s7_29 rfl ?_
  refine s7_32 ?_
  refine s7_34 0 rfl (by decide) rfl ?_
  refine s7_35 ?_
  refine s7_38c (fun _ => ?_) (fun h => absurd h (by decide))
  refine s7_70 ?_
  refine s7_71 ?_
  refine s7_72 rfl ?_
  refine s7_75 ?_
  refine s7_77 0 rfl (by decide) rfl ?_
  refine s7_78 ?_
  refine s7_81c (fun _ => ?_) (fun h => absurd h (by decide))
  refine s7_89 ?_
  refine s7_90 ?_
  refine s7_91 rfl ?_
  refine s7_92 ?_
  refine s7_95 ?_
  refine s7_10 ?_
  refine s7_12 ?_
  refine s7_13 rfl ?_
  refine s7_16 ?_
  refine s7_17 0 rfl (by decide) rfl ?_
  refine s7_18 ?_
  refine s7_19 rfl ?_
  refine s7_22 ?_
  refine s7_23 0 rfl (by decide) rfl ?_
  refine s7_24 ?_
  refine s7_25 (fun _ => ?_) (fun h => absurd h (by decide))
  refine s7_98 ?_
  exact s7_99 ⟨rfl, rfl⟩
theorem own_r122 (a b c pd : Int32) (w : Int64) (hc : ¬ w < c.toInt64 - pd.toInt64) : M7 ⟨0, 0, 0, 0⟩ [.ref 2, .int 0, .int pd] [(.inr (.int, [.int 0, .int 1]) : ACell), (.inr (.int, [.int 1, .int 1]) : ACell), (.inl (0, [.ref 3, .ref 4, .ref 0, .ref 5, .long w, .ref 6, .ref 7, .ref 8, .long (c).toInt64]) : ACell), (.inr (.long, [.long 0, .long 0, .long 0, .long 0, .long 0, .long 0, .long 0, .long 0, .long 0, .long 0, .long 0, .long 0, .long 0, .long 0, .long 0, .long 0]) : ACell), (.inr (.int, [.int 0, .int 0, .int 0, .int 0, .int 0, .int 0, .int 0, .int 0, .int 0, .int 0, .int 0, .int 0, .int 0, .int 0, .int 0, .int 0]) : ACell), (.inr (.int, [.int 1, .int 2]) : ACell), (.inr (.int, [.int 0, .int 1]) : ACell), (.inr (.long, [.long (c).toInt64, .long 9223372036854775807, .long 9223372036854775807]) : ACell), (.inr (.long, [.long 0, .long 0]) : ACell)] (Is (some (.int 1)) [(.inr (.int, [.int 0, .int 1]) : ACell), (.inr (.int, [.int 1, .int 1]) : ACell), (.inl (0, [.ref 3, .ref 4, .ref 0, .ref 5, .long w, .ref 6, .ref 7, .ref 8, .long (c).toInt64]) : ACell), (.inr (.long, [.long 0, .long 0, .long 0, .long 0, .long 0, .long 0, .long 0, .long 0, .long 0, .long 0, .long 0, .long 0, .long 0, .long 0, .long 0, .long 0]) : ACell), (.inr (.int, [.int 0, .int 0, .int 0, .int 0, .int 0, .int 0, .int 0, .int 0, .int 0, .int 0, .int 0, .int 0, .int 0, .int 0, .int 0, .int 0]) : ACell), (.inr (.int, [.int 1, .int 2]) : ACell), (.inr (.int, [.int 0, .int 1]) : ACell), (.inr (.long, [.long (c).toInt64, .long 9223372036854775807, .long 9223372036854775807]) : ACell), (.inr (.long, [.long 0, .long 0]) : ACell)]) := by
  refine e7 ?_
  refine s7_0 ?_
  refine s7_1 rfl ?_
  refine s7_2 ?_
  refine s7_3 rfl ?_
  refine s7_6 ?_
  refine s7_7 0 rfl (by decide) rfl ?_
  refine s7_8 rfl ?_
  refine s7_10 ?_
  refine s7_12 ?_
  refine s7_13 rfl ?_
  refine s7_16 ?_
  refine s7_17 0 rfl (by decide) rfl ?_
  refine s7_18 ?_
  refine s7_19 rfl ?_
  refine s7_22 ?_
  refine s7_23 0 rfl (by decide) rfl ?_
  refine s7_24 ?_
  refine s7_25 (fun h => absurd h (by decide)) (fun _ => ?_)
  refine s7_28 ?_
  refine s7_29 rfl ?_
  refine s7_32 ?_
  refine s7_34 0 rfl (by decide) rfl ?_
  refine s7_35 ?_
  refine s7_38c (fun h => absurd h (own_ne _)) (fun _ => ?_)
  refine s7_42 ?_
  refine s7_43 rfl ?_
  refine s7_46 ?_
  refine s7_48 0 rfl (by decide) rfl ?_
  refine s7_49 ?_
  refine s7_50 ?_
  refine s7_51 ?_
  refine s7_52 ?_
  refine s7_53 rfl ?_
  refine s7_56c (fun _ => ?_) (fun h => absurd h hc)
  refine s7_70 ?_
  refine s7_71 ?_
  refine s7_72 rfl ?_
  refine s7_75 ?_
  refine s7_77 0 rfl (by decide) rfl ?_
  refine s7_78 ?_
  refine s7_81c (fun h => absurd h (own_ne _)) (fun _ => ?_)
  refine s7_85 ?_
  refine s7_86 ?_
  refine s7_90 ?_
  refine s7_91 rfl ?_
  refine s7_92 ?_
  refine s7_95 ?_
  refine s7_10 ?_
  refine s7_12 ?_
  refine s7_13 rfl ?_
  refine s7_16 ?_
  refine s7_17 0 rfl (by decide) rfl ?_
  refine s7_18 ?_
  refine s7_19 rfl ?_
  refine s7_22 ?_
  refine s7_23 0 rfl (by decide) rfl ?_
  refine s7_24 ?_
  refine s7_25 (fun _ => ?_) (fun h => absurd h (by decide))
  refine s7_98 ?_
  exact s7_99 ⟨rfl, rfl⟩
theorem own_r124 (a b c pd : Int32) (w : Int64) (hc : w < c.toInt64 - pd.toInt64) : M7 ⟨0, 0, 0, 0⟩ [.ref 2, .int 0, .int pd] [(.inr (.int, [.int 0, .int 1]) : ACell), (.inr (.int, [.int 1, .int 1]) : ACell), (.inl (0, [.ref 3, .ref 4, .ref 0, .ref 5, .long w, .ref 6, .ref 7, .ref 8, .long (c).toInt64]) : ACell), (.inr (.long, [.long 0, .long 0, .long 0, .long 0, .long 0, .long 0, .long 0, .long 0, .long 0, .long 0, .long 0, .long 0, .long 0, .long 0, .long 0, .long 0]) : ACell), (.inr (.int, [.int 0, .int 0, .int 0, .int 0, .int 0, .int 0, .int 0, .int 0, .int 0, .int 0, .int 0, .int 0, .int 0, .int 0, .int 0, .int 0]) : ACell), (.inr (.int, [.int 1, .int 2]) : ACell), (.inr (.int, [.int 0, .int 1]) : ACell), (.inr (.long, [.long (c).toInt64, .long 9223372036854775807, .long 9223372036854775807]) : ACell), (.inr (.long, [.long 0, .long 0]) : ACell)] (Is (some (.int 0)) [(.inr (.int, [.int 0, .int 1]) : ACell), (.inr (.int, [.int 1, .int 1]) : ACell), (.inl (0, [.ref 3, .ref 4, .ref 0, .ref 5, .long w, .ref 6, .ref 7, .ref 8, .long (c).toInt64]) : ACell), (.inr (.long, [.long 0, .long 0, .long 0, .long 0, .long 0, .long 0, .long 0, .long 0, .long 0, .long 0, .long 0, .long 0, .long 0, .long 0, .long 0, .long 0]) : ACell), (.inr (.int, [.int 0, .int 0, .int 0, .int 0, .int 0, .int 0, .int 0, .int 0, .int 0, .int 0, .int 0, .int 0, .int 0, .int 0, .int 0, .int 0]) : ACell), (.inr (.int, [.int 1, .int 2]) : ACell), (.inr (.int, [.int 0, .int 1]) : ACell), (.inr (.long, [.long 9223372036854775807, .long 9223372036854775807, .long 9223372036854775807]) : ACell), (.inr (.long, [.long 0, .long 0]) : ACell)]) := by
  refine e7 ?_
  refine s7_0 ?_
  refine s7_1 rfl ?_
  refine s7_2 ?_
  refine s7_3 rfl ?_
  refine s7_6 ?_
  refine s7_7 0 rfl (by decide) rfl ?_
  refine s7_8 rfl ?_
  refine s7_10 ?_
  refine s7_12 ?_
  refine s7_13 rfl ?_
  refine s7_16 ?_
  refine s7_17 0 rfl (by decide) rfl ?_
  refine s7_18 ?_
  refine s7_19 rfl ?_
  refine s7_22 ?_
  refine s7_23 0 rfl (by decide) rfl ?_
  refine s7_24 ?_
  refine s7_25 (fun h => absurd h (by decide)) (fun _ => ?_)
  refine s7_28 ?_
  refine s7_29 rfl ?_
  refine s7_32 ?_
  refine s7_34 0 rfl (by decide) rfl ?_
  refine s7_35 ?_
  refine s7_38c (fun h => absurd h (own_ne _)) (fun _ => ?_)
  refine s7_42 ?_
  refine s7_43 rfl ?_
  refine s7_46 ?_
  refine s7_48 0 rfl (by decide) rfl ?_
  refine s7_49 ?_
  refine s7_50 ?_
  refine s7_51 ?_
  refine s7_52 ?_
  refine s7_53 rfl ?_
  refine s7_56c (fun h => absurd hc h) (fun _ => ?_)
  refine s7_60 ?_
  refine s7_61 rfl ?_
  refine s7_64 ?_
  refine s7_66 ?_
  refine s7_69 0 rfl (by decide) rfl ?_
  refine s7_70 ?_
  refine s7_71 ?_
  refine s7_72 rfl ?_
  refine s7_75 ?_
  refine s7_77 0 rfl (by decide) rfl ?_
  refine s7_78 ?_
  refine s7_81c (fun _ => ?_) (fun h => absurd h (by decide))
  refine s7_89 ?_
  refine s7_90 ?_
  refine s7_91 rfl ?_
  refine s7_92 ?_
  refine s7_95 ?_
  refine s7_10 ?_
  refine s7_12 ?_
  refine s7_13 rfl ?_
  refine s7_16 ?_
  refine s7_17 0 rfl (by decide) rfl ?_
  refine s7_18 ?_
  refine s7_19 rfl ?_
  refine s7_22 ?_
  refine s7_23 0 rfl (by decide) rfl ?_
  refine s7_24 ?_
  refine s7_25 (fun _ => ?_) (fun h => absurd h (by decide))
  refine s7_98 ?_
  exact s7_99 ⟨rfl, rfl⟩
theorem own_r126 (a b c pd : Int32) (w : Int64) : M9 ⟨0, 0, 0, 0⟩ [.ref 2, .int 0, .int 0] [(.inr (.int, [.int 0, .int 1]) : ACell), (.inr (.int, [.int 1, .int 1]) : ACell), (.inl (0, [.ref 3, .ref 4, .ref 0, .ref 5, .long w, .ref 6, .ref 7, .ref 8, .long (c).toInt64]) : ACell), (.inr (.long, [.long 0, .long 0, .long 0, .long 0, .long 0, .long 0, .long 0, .long 0, .long 0, .long 0, .long 0, .long 0, .long 0, .long 0, .long 0, .long 0]) : ACell), (.inr (.int, [.int 0, .int 0, .int 0, .int 0, .int 0, .int 0, .int 0, .int 0, .int 0, .int 0, .int 0, .int 0, .int 0, .int 0, .int 0, .int 0]) : ACell), (.inr (.int, [.int 1, .int 2]) : ACell), (.inr (.int, [.int 0, .int 1]) : ACell), (.inr (.long, [.long 9223372036854775807, .long 9223372036854775807, .long 9223372036854775807]) : ACell), (.inr (.long, [.long 0, .long 0]) : ACell)] (Is (some (.long 9223372036854775807)) [(.inr (.int, [.int 0, .int 1]) : ACell), (.inr (.int, [.int 1, .int 1]) : ACell), (.inl (0, [.ref 3, .ref 4, .ref 0, .ref 5, .long w, .ref 6, .ref 7, .ref 8, .long (c).toInt64]) : ACell), (.inr (.long, [.long 0, .long 0, .long 0, .long 0, .long 0, .long 0, .long 0, .long 0, .long 0, .long 0, .long 0, .long 0, .long 0, .long 0, .long 0, .long 0]) : ACell), (.inr (.int, [.int 0, .int 0, .int 0, .int 0, .int 0, .int 0, .int 0, .int 0, .int 0, .int 0, .int 0, .int 0, .int 0, .int 0, .int 0, .int 0]) : ACell), (.inr (.int, [.int 1, .int 2]) : ACell), (.inr (.int, [.int 0, .int 1]) : ACell), (.inr (.long, [.long 9223372036854775807, .long 9223372036854775807, .long 9223372036854775807]) : ACell), (.inr (.long, [.long 0, .long 0]) : ACell)]) := by
  refine e9 ?_
  refine s9_0 ?_
  refine s9_1 rfl ?_
  refine s9_4 ?_
  refine s9_5 rfl ?_
  refine s9_8 ?_
  refine s9_9 0 rfl (by decide) rfl ?_
  refine s9_10 ?_
  refine s9_11 ?_
  refine s9_12 0 rfl (by decide) rfl ?_
  exact s9_13 ⟨rfl, rfl⟩
theorem own_r127 (a b c pd : Int32) (w : Int64) : M9 ⟨0, 0, 0, 0⟩ [.ref 2, .int 1, .int 0] [(.inr (.int, [.int 0, .int 1]) : ACell), (.inr (.int, [.int 1, .int 1]) : ACell), (.inl (0, [.ref 3, .ref 4, .ref 0, .ref 5, .long w, .ref 6, .ref 7, .ref 8, .long (c).toInt64]) : ACell), (.inr (.long, [.long 0, .long 0, .long 0, .long 0, .long 0, .long 0, .long 0, .long 0, .long 0, .long 0, .long 0, .long 0, .long 0, .long 0, .long 0, .long 0]) : ACell), (.inr (.int, [.int 0, .int 0, .int 0, .int 0, .int 0, .int 0, .int 0, .int 0, .int 0, .int 0, .int 0, .int 0, .int 0, .int 0, .int 0, .int 0]) : ACell), (.inr (.int, [.int 1, .int 2]) : ACell), (.inr (.int, [.int 0, .int 1]) : ACell), (.inr (.long, [.long 9223372036854775807, .long 9223372036854775807, .long 9223372036854775807]) : ACell), (.inr (.long, [.long 0, .long 0]) : ACell)] (Is (some (.long 9223372036854775807)) [(.inr (.int, [.int 0, .int 1]) : ACell), (.inr (.int, [.int 1, .int 1]) : ACell), (.inl (0, [.ref 3, .ref 4, .ref 0, .ref 5, .long w, .ref 6, .ref 7, .ref 8, .long (c).toInt64]) : ACell), (.inr (.long, [.long 0, .long 0, .long 0, .long 0, .long 0, .long 0, .long 0, .long 0, .long 0, .long 0, .long 0, .long 0, .long 0, .long 0, .long 0, .long 0]) : ACell), (.inr (.int, [.int 0, .int 0, .int 0, .int 0, .int 0, .int 0, .int 0, .int 0, .int 0, .int 0, .int 0, .int 0, .int 0, .int 0, .int 0, .int 0]) : ACell), (.inr (.int, [.int 1, .int 2]) : ACell), (.inr (.int, [.int 0, .int 1]) : ACell), (.inr (.long, [.long 9223372036854775807, .long 9223372036854775807, .long 9223372036854775807]) : ACell), (.inr (.long, [.long 0, .long 0]) : ACell)]) := by
  refine e9 ?_
  refine s9_0 ?_
  refine s9_1 rfl ?_
  refine s9_4 ?_
  refine s9_5 rfl ?_
  refine s9_8 ?_
  refine s9_9 1 rfl (by decide) rfl ?_
  refine s9_10 ?_
  refine s9_11 ?_
  refine s9_12 1 rfl (by decide) rfl ?_
  exact s9_13 ⟨rfl, rfl⟩
theorem own_r128 (a b c pd : Int32) (w : Int64) : M9 ⟨0, 0, 0, 0⟩ [.ref 2, .int 1, .int 1] [(.inr (.int, [.int 0, .int 1]) : ACell), (.inr (.int, [.int 1, .int 1]) : ACell), (.inl (0, [.ref 3, .ref 4, .ref 0, .ref 5, .long w, .ref 6, .ref 7, .ref 8, .long (c).toInt64]) : ACell), (.inr (.long, [.long 0, .long 0, .long 0, .long 0, .long 0, .long 0, .long 0, .long 0, .long 0, .long 0, .long 0, .long 0, .long 0, .long 0, .long 0, .long 0]) : ACell), (.inr (.int, [.int 0, .int 0, .int 0, .int 0, .int 0, .int 0, .int 0, .int 0, .int 0, .int 0, .int 0, .int 0, .int 0, .int 0, .int 0, .int 0]) : ACell), (.inr (.int, [.int 1, .int 2]) : ACell), (.inr (.int, [.int 0, .int 1]) : ACell), (.inr (.long, [.long 9223372036854775807, .long 9223372036854775807, .long 9223372036854775807]) : ACell), (.inr (.long, [.long 0, .long 0]) : ACell)] (Is (some (.long 9223372036854775807)) [(.inr (.int, [.int 0, .int 1]) : ACell), (.inr (.int, [.int 1, .int 1]) : ACell), (.inl (0, [.ref 3, .ref 4, .ref 0, .ref 5, .long w, .ref 6, .ref 7, .ref 8, .long (c).toInt64]) : ACell), (.inr (.long, [.long 0, .long 0, .long 0, .long 0, .long 0, .long 0, .long 0, .long 0, .long 0, .long 0, .long 0, .long 0, .long 0, .long 0, .long 0, .long 0]) : ACell), (.inr (.int, [.int 0, .int 0, .int 0, .int 0, .int 0, .int 0, .int 0, .int 0, .int 0, .int 0, .int 0, .int 0, .int 0, .int 0, .int 0, .int 0]) : ACell), (.inr (.int, [.int 1, .int 2]) : ACell), (.inr (.int, [.int 0, .int 1]) : ACell), (.inr (.long, [.long 9223372036854775807, .long 9223372036854775807, .long 9223372036854775807]) : ACell), (.inr (.long, [.long 0, .long 0]) : ACell)]) := by
  refine e9 ?_
  refine s9_0 ?_
  refine s9_1 rfl ?_
  refine s9_4 ?_
  refine s9_5 rfl ?_
  refine s9_8 ?_
  refine s9_9 1 rfl (by decide) rfl ?_
  refine s9_10 ?_
  refine s9_11 ?_
  refine s9_12 2 rfl (by decide) rfl ?_
  exact s9_13 ⟨rfl, rfl⟩
theorem own_r129 (a b c pd : Int32) (w : Int64) (hb : ¬ w < b.toInt64 - pd.toInt64) : M7 ⟨0, 0, 0, 0⟩ [.ref 2, .int 0, .int pd] [(.inr (.int, [.int 0, .int 1]) : ACell), (.inr (.int, [.int 1, .int 1]) : ACell), (.inl (0, [.ref 3, .ref 4, .ref 0, .ref 5, .long w, .ref 6, .ref 7, .ref 8, .long (b).toInt64]) : ACell), (.inr (.long, [.long 0, .long 0, .long 0, .long 0, .long 0, .long 0, .long 0, .long 0, .long 0, .long 0, .long 0, .long 0, .long 0, .long 0, .long 0, .long 0]) : ACell), (.inr (.int, [.int 0, .int 0, .int 0, .int 0, .int 0, .int 0, .int 0, .int 0, .int 0, .int 0, .int 0, .int 0, .int 0, .int 0, .int 0, .int 0]) : ACell), (.inr (.int, [.int 1, .int 2]) : ACell), (.inr (.int, [.int 0, .int 1]) : ACell), (.inr (.long, [.long 9223372036854775807, .long 9223372036854775807, .long (b).toInt64]) : ACell), (.inr (.long, [.long 0, .long 0]) : ACell)] (Is (some (.int 0)) [(.inr (.int, [.int 0, .int 1]) : ACell), (.inr (.int, [.int 1, .int 1]) : ACell), (.inl (0, [.ref 3, .ref 4, .ref 0, .ref 5, .long w, .ref 6, .ref 7, .ref 8, .long (b).toInt64]) : ACell), (.inr (.long, [.long 0, .long 0, .long 0, .long 0, .long 0, .long 0, .long 0, .long 0, .long 0, .long 0, .long 0, .long 0, .long 0, .long 0, .long 0, .long 0]) : ACell), (.inr (.int, [.int 0, .int 0, .int 0, .int 0, .int 0, .int 0, .int 0, .int 0, .int 0, .int 0, .int 0, .int 0, .int 0, .int 0, .int 0, .int 0]) : ACell), (.inr (.int, [.int 1, .int 2]) : ACell), (.inr (.int, [.int 0, .int 1]) : ACell), (.inr (.long, [.long 9223372036854775807, .long 9223372036854775807, .long (b).toInt64]) : ACell), (.inr (.long, [.long 0, .long 0]) : ACell)]) := by
  refine e7 ?_
  refine s7_0 ?_
  refine s7_1 rfl ?_
  refine s7_2 ?_
  refine s7_3 rfl ?_
  refine s7_6 ?_
  refine s7_7 0 rfl (by decide) rfl ?_
  refine s7_8 rfl ?_
  refine s7_10 ?_
  refine s7_12 ?_
  refine s7_13 rfl ?_
  refine s7_16 ?_
  refine s7_17 0 rfl (by decide) rfl ?_
  refine s7_18 ?_
  refine s7_19 rfl ?_
  refine s7_22 ?_
  refine s7_23 0 rfl (by decide) rfl ?_
  refine s7_24 ?_
  refine s7_25 (fun h => absurd h (by decide)) (fun _ => ?_)
  refine s7_28 ?_
  refine s7_29 rfl ?_
  refine s7_32 ?_
  refine s7_34 0 rfl (by decide) rfl ?_
  refine s7_35 ?_
  refine s7_38c (fun _ => ?_) (fun h => absurd h (by decide))
  refine s7_70 ?_
  refine s7_71 ?_
  refine s7_72 rfl ?_
  refine s7_75 ?_
  refine s7_77 0 rfl (by decide) rfl ?_
  refine s7_78 ?_
  refine s7_81c (fun _ => ?_) (fun h => absurd h (by decide))
  refine s7_89 ?_
  refine s7_90 ?_
  refine s7_91 rfl ?_
  refine s7_92 ?_
  refine s7_95 ?_
  refine s7_10 ?_
  refine s7_12 ?_
  refine s7_13 rfl ?_
  refine s7_16 ?_
  refine s7_17 0 rfl (by decide) rfl ?_
  refine s7_18 ?_
  refine s7_19 rfl ?_
  refine s7_22 ?_
  refine s7_23 0 rfl (by decide) rfl ?_
  refine s7_24 ?_
  refine s7_25 (fun _ => ?_) (fun h => absurd h (by decide))
  refine s7_98 ?_
  exact s7_99 ⟨rfl, rfl⟩
theorem own_r131 (a b c pd : Int32) (w : Int64) (hb : ¬ w < b.toInt64 - pd.toInt64) (hc : ¬ w < c.toInt64 - pd.toInt64) : M7 ⟨0, 0, 0, 0⟩ [.ref 2, .int 0, .int pd] [(.inr (.int, [.int 0, .int 1]) : ACell), (.inr (.int, [.int 1, .int 1]) : ACell), (.inl (0, [.ref 3, .ref 4, .ref 0, .ref 5, .long w, .ref 6, .ref 7, .ref 8, .long (b).toInt64]) : ACell), (.inr (.long, [.long 0, .long 0, .long 0, .long 0, .long 0, .long 0, .long 0, .long 0, .long 0, .long 0, .long 0, .long 0, .long 0, .long 0, .long 0, .long 0]) : ACell), (.inr (.int, [.int 0, .int 0, .int 0, .int 0, .int 0, .int 0, .int 0, .int 0, .int 0, .int 0, .int 0, .int 0, .int 0, .int 0, .int 0, .int 0]) : ACell), (.inr (.int, [.int 1, .int 2]) : ACell), (.inr (.int, [.int 0, .int 1]) : ACell), (.inr (.long, [.long (c).toInt64, .long 9223372036854775807, .long (b).toInt64]) : ACell), (.inr (.long, [.long 0, .long 0]) : ACell)] (Is (some (.int 1)) [(.inr (.int, [.int 0, .int 1]) : ACell), (.inr (.int, [.int 1, .int 1]) : ACell), (.inl (0, [.ref 3, .ref 4, .ref 0, .ref 5, .long w, .ref 6, .ref 7, .ref 8, .long (b).toInt64]) : ACell), (.inr (.long, [.long 0, .long 0, .long 0, .long 0, .long 0, .long 0, .long 0, .long 0, .long 0, .long 0, .long 0, .long 0, .long 0, .long 0, .long 0, .long 0]) : ACell), (.inr (.int, [.int 0, .int 0, .int 0, .int 0, .int 0, .int 0, .int 0, .int 0, .int 0, .int 0, .int 0, .int 0, .int 0, .int 0, .int 0, .int 0]) : ACell), (.inr (.int, [.int 1, .int 2]) : ACell), (.inr (.int, [.int 0, .int 1]) : ACell), (.inr (.long, [.long (c).toInt64, .long 9223372036854775807, .long (b).toInt64]) : ACell), (.inr (.long, [.long 0, .long 0]) : ACell)]) := by
  refine e7 ?_
  refine s7_0 ?_
  refine s7_1 rfl ?_
  refine s7_2 ?_
  refine s7_3 rfl ?_
  refine s7_6 ?_
  refine s7_7 0 rfl (by decide) rfl ?_
  refine s7_8 rfl ?_
  refine s7_10 ?_
  refine s7_12 ?_
  refine s7_13 rfl ?_
  refine s7_16 ?_
  refine s7_17 0 rfl (by decide) rfl ?_
  refine s7_18 ?_
  refine s7_19 rfl ?_
  refine s7_22 ?_
  refine s7_23 0 rfl (by decide) rfl ?_
  refine s7_24 ?_
  refine s7_25 (fun h => absurd h (by decide)) (fun _ => ?_)
  refine s7_28 ?_
  refine s7_29 rfl ?_
  refine s7_32 ?_
  refine s7_34 0 rfl (by decide) rfl ?_
  refine s7_35 ?_
  refine s7_38c (fun h => absurd h (own_ne _)) (fun _ => ?_)
  refine s7_42 ?_
  refine s7_43 rfl ?_
  refine s7_46 ?_
  refine s7_48 0 rfl (by decide) rfl ?_
  refine s7_49 ?_
  refine s7_50 ?_
  refine s7_51 ?_
  refine s7_52 ?_
  refine s7_53 rfl ?_
  refine s7_56c (fun _ => ?_) (fun h => absurd h hc)
  refine s7_70 ?_
  refine s7_71 ?_
  refine s7_72 rfl ?_
  refine s7_75 ?_
  refine s7_77 0 rfl (by decide) rfl ?_
  refine s7_78 ?_
  refine s7_81c (fun h => absurd h (own_ne _)) (fun _ => ?_)
  refine s7_85 ?_
  refine s7_86 ?_
  refine s7_90 ?_
  refine s7_91 rfl ?_
  refine s7_92 ?_
  refine s7_95 ?_
  refine s7_10 ?_
  refine s7_12 ?_
  refine s7_13 rfl ?_
  refine s7_16 ?_
  refine s7_17 0 rfl (by decide) rfl ?_
  refine s7_18 ?_
  refine s7_19 rfl ?_
  refine s7_22 ?_
  refine s7_23 0 rfl (by decide) rfl ?_
  refine s7_24 ?_
  refine s7_25 (fun _ => ?_) (fun h => absurd h (by decide))
  refine s7_98 ?_
  exact s7_99 ⟨rfl, rfl⟩
theorem own_r133 (a b c pd : Int32) (w : Int64) (hb : ¬ w < b.toInt64 - pd.toInt64) (hc : w < c.toInt64 - pd.toInt64) : M7 ⟨0, 0, 0, 0⟩ [.ref 2, .int 0, .int pd] [(.inr (.int, [.int 0, .int 1]) : ACell), (.inr (.int, [.int 1, .int 1]) : ACell), (.inl (0, [.ref 3, .ref 4, .ref 0, .ref 5, .long w, .ref 6, .ref 7, .ref 8, .long (b).toInt64]) : ACell), (.inr (.long, [.long 0, .long 0, .long 0, .long 0, .long 0, .long 0, .long 0, .long 0, .long 0, .long 0, .long 0, .long 0, .long 0, .long 0, .long 0, .long 0]) : ACell), (.inr (.int, [.int 0, .int 0, .int 0, .int 0, .int 0, .int 0, .int 0, .int 0, .int 0, .int 0, .int 0, .int 0, .int 0, .int 0, .int 0, .int 0]) : ACell), (.inr (.int, [.int 1, .int 2]) : ACell), (.inr (.int, [.int 0, .int 1]) : ACell), (.inr (.long, [.long (c).toInt64, .long 9223372036854775807, .long (b).toInt64]) : ACell), (.inr (.long, [.long 0, .long 0]) : ACell)] (Is (some (.int 0)) [(.inr (.int, [.int 0, .int 1]) : ACell), (.inr (.int, [.int 1, .int 1]) : ACell), (.inl (0, [.ref 3, .ref 4, .ref 0, .ref 5, .long w, .ref 6, .ref 7, .ref 8, .long (b).toInt64]) : ACell), (.inr (.long, [.long 0, .long 0, .long 0, .long 0, .long 0, .long 0, .long 0, .long 0, .long 0, .long 0, .long 0, .long 0, .long 0, .long 0, .long 0, .long 0]) : ACell), (.inr (.int, [.int 0, .int 0, .int 0, .int 0, .int 0, .int 0, .int 0, .int 0, .int 0, .int 0, .int 0, .int 0, .int 0, .int 0, .int 0, .int 0]) : ACell), (.inr (.int, [.int 1, .int 2]) : ACell), (.inr (.int, [.int 0, .int 1]) : ACell), (.inr (.long, [.long 9223372036854775807, .long 9223372036854775807, .long (b).toInt64]) : ACell), (.inr (.long, [.long 0, .long 0]) : ACell)]) := by
  refine e7 ?_
  refine s7_0 ?_
  refine s7_1 rfl ?_
  refine s7_2 ?_
  refine s7_3 rfl ?_
  refine s7_6 ?_
  refine s7_7 0 rfl (by decide) rfl ?_
  refine s7_8 rfl ?_
  refine s7_10 ?_
  refine s7_12 ?_
  refine s7_13 rfl ?_
  refine s7_16 ?_
  refine s7_17 0 rfl (by decide) rfl ?_
  refine s7_18 ?_
  refine s7_19 rfl ?_
  refine s7_22 ?_
  refine s7_23 0 rfl (by decide) rfl ?_
  refine s7_24 ?_
  refine s7_25 (fun h => absurd h (by decide)) (fun _ => ?_)
  refine s7_28 ?_
  refine s7_29 rfl ?_
  refine s7_32 ?_
  refine s7_34 0 rfl (by decide) rfl ?_
  refine s7_35 ?_
  refine s7_38c (fun h => absurd h (own_ne _)) (fun _ => ?_)
  refine s7_42 ?_
  refine s7_43 rfl ?_
  refine s7_46 ?_
  refine s7_48 0 rfl (by decide) rfl ?_
  refine s7_49 ?_
  refine s7_50 ?_
  refine s7_51 ?_
  refine s7_52 ?_
  refine s7_53 rfl ?_
  refine s7_56c (fun h => absurd hc h) (fun _ => ?_)
  refine s7_60 ?_
  refine s7_61 rfl ?_
  refine s7_64 ?_
  refine s7_66 ?_
  refine s7_69 0 rfl (by decide) rfl ?_
  refine s7_70 ?_
  refine s7_71 ?_
  refine s7_72 rfl ?_
  refine s7_75 ?_
  refine s7_77 0 rfl (by decide) rfl ?_
  refine s7_78 ?_
  refine s7_81c (fun _ => ?_) (fun h => absurd h (by decide))
  refine s7_89 ?_
  refine s7_90 ?_
  refine s7_91 rfl ?_
  refine s7_92 ?_
  refine s7_95 ?_
  refine s7_10 ?_
  refine s7_12 ?_
  refine s7_13 rfl ?_
  refine s7_16 ?_
  refine s7_17 0 rfl (by decide) rfl ?_
  refine s7_18 ?_
  refine s7_19 rfl ?_
  refine s7_22 ?_
  refine s7_23 0 rfl (by decide) rfl ?_
  refine s7_24 ?_
  refine s7_25 (fun _ => ?_) (fun h => absurd h (by decide))
  refine s7_98 ?_
  exact s7_99 ⟨rfl, rfl⟩
theorem own_r135 (a b c pd : Int32) (w : Int64) (hb : w < b.toInt64 - pd.toInt64) : M7 ⟨0, 0, 0, 0⟩ [.ref 2, .int 0, .int pd] [(.inr (.int, [.int 0, .int 1]) : ACell), (.inr (.int, [.int 1, .int 1]) : ACell), (.inl (0, [.ref 3, .ref 4, .ref 0, .ref 5, .long w, .ref 6, .ref 7, .ref 8, .long (b).toInt64]) : ACell), (.inr (.long, [.long 0, .long 0, .long 0, .long 0, .long 0, .long 0, .long 0, .long 0, .long 0, .long 0, .long 0, .long 0, .long 0, .long 0, .long 0, .long 0]) : ACell), (.inr (.int, [.int 0, .int 0, .int 0, .int 0, .int 0, .int 0, .int 0, .int 0, .int 0, .int 0, .int 0, .int 0, .int 0, .int 0, .int 0, .int 0]) : ACell), (.inr (.int, [.int 1, .int 2]) : ACell), (.inr (.int, [.int 0, .int 1]) : ACell), (.inr (.long, [.long 9223372036854775807, .long 9223372036854775807, .long (b).toInt64]) : ACell), (.inr (.long, [.long 0, .long 0]) : ACell)] (Is (some (.int 0)) [(.inr (.int, [.int 0, .int 1]) : ACell), (.inr (.int, [.int 1, .int 1]) : ACell), (.inl (0, [.ref 3, .ref 4, .ref 0, .ref 5, .long w, .ref 6, .ref 7, .ref 8, .long (b).toInt64]) : ACell), (.inr (.long, [.long 0, .long 0, .long 0, .long 0, .long 0, .long 0, .long 0, .long 0, .long 0, .long 0, .long 0, .long 0, .long 0, .long 0, .long 0, .long 0]) : ACell), (.inr (.int, [.int 0, .int 0, .int 0, .int 0, .int 0, .int 0, .int 0, .int 0, .int 0, .int 0, .int 0, .int 0, .int 0, .int 0, .int 0, .int 0]) : ACell), (.inr (.int, [.int 1, .int 2]) : ACell), (.inr (.int, [.int 0, .int 1]) : ACell), (.inr (.long, [.long 9223372036854775807, .long 9223372036854775807, .long (b).toInt64]) : ACell), (.inr (.long, [.long 0, .long 0]) : ACell)]) := by
  refine e7 ?_
  refine s7_0 ?_
  refine s7_1 rfl ?_
  refine s7_2 ?_
  refine s7_3 rfl ?_
  refine s7_6 ?_
  refine s7_7 0 rfl (by decide) rfl ?_
  refine s7_8 rfl ?_
  refine s7_10 ?_
  refine s7_12 ?_
  refine s7_13 rfl ?_
  refine s7_16 ?_
  refine s7_17 0 rfl (by decide) rfl ?_
  refine s7_18 ?_
  refine s7_19 rfl ?_
  refine s7_22 ?_
  refine s7_23 0 rfl (by decide) rfl ?_
  refine s7_24 ?_
  refine s7_25 (fun h => absurd h (by decide)) (fun _ => ?_)
  refine s7_28 ?_
  refine s7_29 rfl ?_
  refine s7_32 ?_
  refine s7_34 0 rfl (by decide) rfl ?_
  refine s7_35 ?_
  refine s7_38c (fun _ => ?_) (fun h => absurd h (by decide))
  refine s7_70 ?_
  refine s7_71 ?_
  refine s7_72 rfl ?_
  refine s7_75 ?_
  refine s7_77 0 rfl (by decide) rfl ?_
  refine s7_78 ?_
  refine s7_81c (fun _ => ?_) (fun h => absurd h (by decide))
  refine s7_89 ?_
  refine s7_90 ?_
  refine s7_91 rfl ?_
  refine s7_92 ?_
  refine s7_95 ?_
  refine s7_10 ?_
  refine s7_12 ?_
  refine s7_13 rfl ?_
  refine s7_16 ?_
  refine s7_17 0 rfl (by decide) rfl ?_
  refine s7_18 ?_
  refine s7_19 rfl ?_
  refine s7_22 ?_
  refine s7_23 0 rfl (by decide) rfl ?_
  refine s7_24 ?_
  refine s7_25 (fun _ => ?_) (fun h => absurd h (by decide))
  refine s7_98 ?_
  exact s7_99 ⟨rfl, rfl⟩
theorem own_r137 (a b c pd : Int32) (w : Int64) (hb : w < b.toInt64 - pd.toInt64) (hc : ¬ w < c.toInt64 - pd.toInt64) : M7 ⟨0, 0, 0, 0⟩ [.ref 2, .int 0, .int pd] [(.inr (.int, [.int 0, .int 1]) : ACell), (.inr (.int, [.int 1, .int 1]) : ACell), (.inl (0, [.ref 3, .ref 4, .ref 0, .ref 5, .long w, .ref 6, .ref 7, .ref 8, .long (b).toInt64]) : ACell), (.inr (.long, [.long 0, .long 0, .long 0, .long 0, .long 0, .long 0, .long 0, .long 0, .long 0, .long 0, .long 0, .long 0, .long 0, .long 0, .long 0, .long 0]) : ACell), (.inr (.int, [.int 0, .int 0, .int 0, .int 0, .int 0, .int 0, .int 0, .int 0, .int 0, .int 0, .int 0, .int 0, .int 0, .int 0, .int 0, .int 0]) : ACell), (.inr (.int, [.int 1, .int 2]) : ACell), (.inr (.int, [.int 0, .int 1]) : ACell), (.inr (.long, [.long (c).toInt64, .long 9223372036854775807, .long (b).toInt64]) : ACell), (.inr (.long, [.long 0, .long 0]) : ACell)] (Is (some (.int 1)) [(.inr (.int, [.int 0, .int 1]) : ACell), (.inr (.int, [.int 1, .int 1]) : ACell), (.inl (0, [.ref 3, .ref 4, .ref 0, .ref 5, .long w, .ref 6, .ref 7, .ref 8, .long (b).toInt64]) : ACell), (.inr (.long, [.long 0, .long 0, .long 0, .long 0, .long 0, .long 0, .long 0, .long 0, .long 0, .long 0, .long 0, .long 0, .long 0, .long 0, .long 0, .long 0]) : ACell), (.inr (.int, [.int 0, .int 0, .int 0, .int 0, .int 0, .int 0, .int 0, .int 0, .int 0, .int 0, .int 0, .int 0, .int 0, .int 0, .int 0, .int 0]) : ACell), (.inr (.int, [.int 1, .int 2]) : ACell), (.inr (.int, [.int 0, .int 1]) : ACell), (.inr (.long, [.long (c).toInt64, .long 9223372036854775807, .long (b).toInt64]) : ACell), (.inr (.long, [.long 0, .long 0]) : ACell)]) := by
  refine e7 ?_
  refine s7_0 ?_
  refine s7_1 rfl ?_
  refine s7_2 ?_
  refine s7_3 rfl ?_
  refine s7_6 ?_
  refine s7_7 0 rfl (by decide) rfl ?_
  refine s7_8 rfl ?_
  refine s7_10 ?_
  refine s7_12 ?_
  refine s7_13 rfl ?_
  refine s7_16 ?_
  refine s7_17 0 rfl (by decide) rfl ?_
  refine s7_18 ?_
  refine s7_19 rfl ?_
  refine s7_22 ?_
  refine s7_23 0 rfl (by decide) rfl ?_
  refine s7_24 ?_
  refine s7_25 (fun h => absurd h (by decide)) (fun _ => ?_)
  refine s7_28 ?_
  refine s7_29 rfl ?_
  refine s7_32 ?_
  refine s7_34 0 rfl (by decide) rfl ?_
  refine s7_35 ?_
  refine s7_38c (fun h => absurd h (own_ne _)) (fun _ => ?_)
  refine s7_42 ?_
  refine s7_43 rfl ?_
  refine s7_46 ?_
  refine s7_48 0 rfl (by decide) rfl ?_
  refine s7_49 ?_
  refine s7_50 ?_
  refine s7_51 ?_
  refine s7_52 ?_
  refine s7_53 rfl ?_
  refine s7_56c (fun _ => ?_) (fun h => absurd h hc)
  refine s7_70 ?_
  refine s7_71 ?_
  refine s7_72 rfl ?_
  refine s7_75 ?_
  refine s7_77 0 rfl (by decide) rfl ?_
  refine s7_78 ?_
  refine s7_81c (fun h => absurd h (own_ne _)) (fun _ => ?_)
  refine s7_85 ?_
  refine s7_86 ?_
  refine s7_90 ?_
  refine s7_91 rfl ?_
  refine s7_92 ?_
  refine s7_95 ?_
  refine s7_10 ?_
  refine s7_12 ?_
  refine s7_13 rfl ?_
  refine s7_16 ?_
  refine s7_17 0 rfl (by decide) rfl ?_
  refine s7_18 ?_
  refine s7_19 rfl ?_
  refine s7_22 ?_
  refine s7_23 0 rfl (by decide) rfl ?_
  refine s7_24 ?_
  refine s7_25 (fun _ => ?_) (fun h => absurd h (by decide))
  refine s7_98 ?_
  exact s7_99 ⟨rfl, rfl⟩
theorem own_r139 (a b c pd : Int32) (w : Int64) (hb : w < b.toInt64 - pd.toInt64) (hc : w < c.toInt64 - pd.toInt64) : M7 ⟨0, 0, 0, 0⟩ [.ref 2, .int 0, .int pd] [(.inr (.int, [.int 0, .int 1]) : ACell), (.inr (.int, [.int 1, .int 1]) : ACell), (.inl (0, [.ref 3, .ref 4, .ref 0, .ref 5, .long w, .ref 6, .ref 7, .ref 8, .long (b).toInt64]) : ACell), (.inr (.long, [.long 0, .long 0, .long 0, .long 0, .long 0, .long 0, .long 0, .long 0, .long 0, .long 0, .long 0, .long 0, .long 0, .long 0, .long 0, .long 0]) : ACell), (.inr (.int, [.int 0, .int 0, .int 0, .int 0, .int 0, .int 0, .int 0, .int 0, .int 0, .int 0, .int 0, .int 0, .int 0, .int 0, .int 0, .int 0]) : ACell), (.inr (.int, [.int 1, .int 2]) : ACell), (.inr (.int, [.int 0, .int 1]) : ACell), (.inr (.long, [.long (c).toInt64, .long 9223372036854775807, .long (b).toInt64]) : ACell), (.inr (.long, [.long 0, .long 0]) : ACell)] (Is (some (.int 0)) [(.inr (.int, [.int 0, .int 1]) : ACell), (.inr (.int, [.int 1, .int 1]) : ACell), (.inl (0, [.ref 3, .ref 4, .ref 0, .ref 5, .long w, .ref 6, .ref 7, .ref 8, .long (b).toInt64]) : ACell), (.inr (.long, [.long 0, .long 0, .long 0, .long 0, .long 0, .long 0, .long 0, .long 0, .long 0, .long 0, .long 0, .long 0, .long 0, .long 0, .long 0, .long 0]) : ACell), (.inr (.int, [.int 0, .int 0, .int 0, .int 0, .int 0, .int 0, .int 0, .int 0, .int 0, .int 0, .int 0, .int 0, .int 0, .int 0, .int 0, .int 0]) : ACell), (.inr (.int, [.int 1, .int 2]) : ACell), (.inr (.int, [.int 0, .int 1]) : ACell), (.inr (.long, [.long 9223372036854775807, .long 9223372036854775807, .long (b).toInt64]) : ACell), (.inr (.long, [.long 0, .long 0]) : ACell)]) := by
  refine e7 ?_
  refine s7_0 ?_
  refine s7_1 rfl ?_
  refine s7_2 ?_
  refine s7_3 rfl ?_
  refine s7_6 ?_
  refine s7_7 0 rfl (by decide) rfl ?_
  refine s7_8 rfl ?_
  refine s7_10 ?_
  refine s7_12 ?_
  refine s7_13 rfl ?_
  refine s7_16 ?_
  refine s7_17 0 rfl (by decide) rfl ?_
  refine s7_18 ?_
  refine s7_19 rfl ?_
  refine s7_22 ?_
  refine s7_23 0 rfl (by decide) rfl ?_
  refine s7_24 ?_
  refine s7_25 (fun h => absurd h (by decide)) (fun _ => ?_)
  refine s7_28 ?_
  refine s7_29 rfl ?_
  refine s7_32 ?_
  refine s7_34 0 rfl (by decide) rfl ?_
  refine s7_35 ?_
  refine s7_38c (fun h => absurd h (own_ne _)) (fun _ => ?_)
  refine s7_42 ?_
  refine s7_43 rfl ?_
  refine s7_46 ?_
  refine s7_48 0 rfl (by decide) rfl ?_
  refine s7_49 ?_
  refine s7_50 ?_
  refine s7_51 ?_
  refine s7_52 ?_
  refine s7_53 rfl ?_
  refine s7_56c (fun h => absurd hc h) (fun _ => ?_)
  refine s7_60 ?_
  refine s7_61 rfl ?_
  refine s7_64 ?_
  refine s7_66 ?_
  refine s7_69 0 rfl (by decide) rfl ?_
  refine s7_70 ?_
  refine s7_71 ?_
  refine s7_72 rfl ?_
  refine s7_75 ?_
  refine s7_77 0 rfl (by decide) rfl ?_
  refine s7_78 ?_
  refine s7_81c (fun _ => ?_) (fun h => absurd h (by decide))
  refine s7_89 ?_
  refine s7_90 ?_
  refine s7_91 rfl ?_
  refine s7_92 ?_
  refine s7_95 ?_
  refine s7_10 ?_
  refine s7_12 ?_
  refine s7_13 rfl ?_
  refine s7_16 ?_
  refine s7_17 0 rfl (by decide) rfl ?_
  refine s7_18 ?_
  refine s7_19 rfl ?_
  refine s7_22 ?_
  refine s7_23 0 rfl (by decide) rfl ?_
  refine s7_24 ?_
  refine s7_25 (fun _ => ?_) (fun h => absurd h (by decide))
  refine s7_98 ?_
  exact s7_99 ⟨rfl, rfl⟩
theorem own_r141 (a b c pd : Int32) (w : Int64) (ha : ¬ w < a.toInt64 - pd.toInt64) : M7 ⟨0, 0, 0, 0⟩ [.ref 2, .int 0, .int pd] [(.inr (.int, [.int 0, .int 1]) : ACell), (.inr (.int, [.int 1, .int 1]) : ACell), (.inl (0, [.ref 3, .ref 4, .ref 0, .ref 5, .long w, .ref 6, .ref 7, .ref 8, .long (a).toInt64]) : ACell), (.inr (.long, [.long 0, .long 0, .long 0, .long 0, .long 0, .long 0, .long 0, .long 0, .long 0, .long 0, .long 0, .long 0, .long 0, .long 0, .long 0, .long 0]) : ACell), (.inr (.int, [.int 0, .int 0, .int 0, .int 0, .int 0, .int 0, .int 0, .int 0, .int 0, .int 0, .int 0, .int 0, .int 0, .int 0, .int 0, .int 0]) : ACell), (.inr (.int, [.int 1, .int 2]) : ACell), (.inr (.int, [.int 0, .int 1]) : ACell), (.inr (.long, [.long 9223372036854775807, .long (a).toInt64, .long 9223372036854775807]) : ACell), (.inr (.long, [.long 0, .long 0]) : ACell)] (Is (some (.int 0)) [(.inr (.int, [.int 0, .int 1]) : ACell), (.inr (.int, [.int 1, .int 1]) : ACell), (.inl (0, [.ref 3, .ref 4, .ref 0, .ref 5, .long w, .ref 6, .ref 7, .ref 8, .long (a).toInt64]) : ACell), (.inr (.long, [.long 0, .long 0, .long 0, .long 0, .long 0, .long 0, .long 0, .long 0, .long 0, .long 0, .long 0, .long 0, .long 0, .long 0, .long 0, .long 0]) : ACell), (.inr (.int, [.int 0, .int 0, .int 0, .int 0, .int 0, .int 0, .int 0, .int 0, .int 0, .int 0, .int 0, .int 0, .int 0, .int 0, .int 0, .int 0]) : ACell), (.inr (.int, [.int 1, .int 2]) : ACell), (.inr (.int, [.int 0, .int 1]) : ACell), (.inr (.long, [.long 9223372036854775807, .long (a).toInt64, .long 9223372036854775807]) : ACell), (.inr (.long, [.long 0, .long 0]) : ACell)]) := by
  refine e7 ?_
  refine s7_0 ?_
  refine s7_1 rfl ?_
  refine s7_2 ?_
  refine s7_3 rfl ?_
  refine s7_6 ?_
  refine s7_7 0 rfl (by decide) rfl ?_
  refine s7_8 rfl ?_
  refine s7_10 ?_
  refine s7_12 ?_
  refine s7_13 rfl ?_
  refine s7_16 ?_
  refine s7_17 0 rfl (by decide) rfl ?_
  refine s7_18 ?_
  refine s7_19 rfl ?_
  refine s7_22 ?_
  refine s7_23 0 rfl (by decide) rfl ?_
  refine s7_24 ?_
  refine s7_25 (fun h => absurd h (by decide)) (fun _ => ?_)
  refine s7_28 ?_
  refine s7_29 rfl ?_
  refine s7_32 ?_
  refine s7_34 0 rfl (by decide) rfl ?_
  refine s7_35 ?_
  refine s7_38c (fun _ => ?_) (fun h => absurd h (by decide))
  refine s7_70 ?_
  refine s7_71 ?_
  refine s7_72 rfl ?_
  refine s7_75 ?_
  refine s7_77 0 rfl (by decide) rfl ?_
  refine s7_78 ?_
  refine s7_81c (fun _ => ?_) (fun h => absurd h (by decide))
  refine s7_89 ?_
  refine s7_90 ?_
  refine s7_91 rfl ?_
  refine s7_92 ?_
  refine s7_95 ?_
  refine s7_10 ?_
  refine s7_12 ?_
  refine s7_13 rfl ?_
  refine s7_16 ?_
  refine s7_17 0 rfl (by decide) rfl ?_
  refine s7_18 ?_
  refine s7_19 rfl ?_
  refine s7_22 ?_
  refine s7_23 0 rfl (by decide) rfl ?_
  refine s7_24 ?_
  refine s7_25 (fun _ => ?_) (fun h => absurd h (by decide))
  refine s7_98 ?_
  exact s7_99 ⟨rfl, rfl⟩
theorem own_r143 (a b c pd : Int32) (w : Int64) (ha : ¬ w < a.toInt64 - pd.toInt64) (hc : ¬ w < c.toInt64 - pd.toInt64) : M7 ⟨0, 0, 0, 0⟩ [.ref 2, .int 0, .int pd] [(.inr (.int, [.int 0, .int 1]) : ACell), (.inr (.int, [.int 1, .int 1]) : ACell), (.inl (0, [.ref 3, .ref 4, .ref 0, .ref 5, .long w, .ref 6, .ref 7, .ref 8, .long (a).toInt64]) : ACell), (.inr (.long, [.long 0, .long 0, .long 0, .long 0, .long 0, .long 0, .long 0, .long 0, .long 0, .long 0, .long 0, .long 0, .long 0, .long 0, .long 0, .long 0]) : ACell), (.inr (.int, [.int 0, .int 0, .int 0, .int 0, .int 0, .int 0, .int 0, .int 0, .int 0, .int 0, .int 0, .int 0, .int 0, .int 0, .int 0, .int 0]) : ACell), (.inr (.int, [.int 1, .int 2]) : ACell), (.inr (.int, [.int 0, .int 1]) : ACell), (.inr (.long, [.long (c).toInt64, .long (a).toInt64, .long 9223372036854775807]) : ACell), (.inr (.long, [.long 0, .long 0]) : ACell)] (Is (some (.int 1)) [(.inr (.int, [.int 0, .int 1]) : ACell), (.inr (.int, [.int 1, .int 1]) : ACell), (.inl (0, [.ref 3, .ref 4, .ref 0, .ref 5, .long w, .ref 6, .ref 7, .ref 8, .long (a).toInt64]) : ACell), (.inr (.long, [.long 0, .long 0, .long 0, .long 0, .long 0, .long 0, .long 0, .long 0, .long 0, .long 0, .long 0, .long 0, .long 0, .long 0, .long 0, .long 0]) : ACell), (.inr (.int, [.int 0, .int 0, .int 0, .int 0, .int 0, .int 0, .int 0, .int 0, .int 0, .int 0, .int 0, .int 0, .int 0, .int 0, .int 0, .int 0]) : ACell), (.inr (.int, [.int 1, .int 2]) : ACell), (.inr (.int, [.int 0, .int 1]) : ACell), (.inr (.long, [.long (c).toInt64, .long (a).toInt64, .long 9223372036854775807]) : ACell), (.inr (.long, [.long 0, .long 0]) : ACell)]) := by
  refine e7 ?_
  refine s7_0 ?_
  refine s7_1 rfl ?_
  refine s7_2 ?_
  refine s7_3 rfl ?_
  refine s7_6 ?_
  refine s7_7 0 rfl (by decide) rfl ?_
  refine s7_8 rfl ?_
  refine s7_10 ?_
  refine s7_12 ?_
  refine s7_13 rfl ?_
  refine s7_16 ?_
  refine s7_17 0 rfl (by decide) rfl ?_
  refine s7_18 ?_
  refine s7_19 rfl ?_
  refine s7_22 ?_
  refine s7_23 0 rfl (by decide) rfl ?_
  refine s7_24 ?_
  refine s7_25 (fun h => absurd h (by decide)) (fun _ => ?_)
  refine s7_28 ?_
  refine s7_29 rfl ?_
  refine s7_32 ?_
  refine s7_34 0 rfl (by decide) rfl ?_
  refine s7_35 ?_
  refine s7_38c (fun h => absurd h (own_ne _)) (fun _ => ?_)
  refine s7_42 ?_
  refine s7_43 rfl ?_
  refine s7_46 ?_
  refine s7_48 0 rfl (by decide) rfl ?_
  refine s7_49 ?_
  refine s7_50 ?_
  refine s7_51 ?_
  refine s7_52 ?_
  refine s7_53 rfl ?_
  refine s7_56c (fun _ => ?_) (fun h => absurd h hc)
  refine s7_70 ?_
  refine s7_71 ?_
  refine s7_72 rfl ?_
  refine s7_75 ?_
  refine s7_77 0 rfl (by decide) rfl ?_
  refine s7_78 ?_
  refine s7_81c (fun h => absurd h (own_ne _)) (fun _ => ?_)
  refine s7_85 ?_
  refine s7_86 ?_
  refine s7_90 ?_
  refine s7_91 rfl ?_
  refine s7_92 ?_
  refine s7_95 ?_
  refine s7_10 ?_
  refine s7_12 ?_
  refine s7_13 rfl ?_
  refine s7_16 ?_
  refine s7_17 0 rfl (by decide) rfl ?_
  refine s7_18 ?_
  refine s7_19 rfl ?_
  refine s7_22 ?_
  refine s7_23 0 rfl (by decide) rfl ?_
  refine s7_24 ?_
  refine s7_25 (fun _ => ?_) (fun h => absurd h (by decide))
  refine s7_98 ?_
  exact s7_99 ⟨rfl, rfl⟩
theorem own_r145 (a b c pd : Int32) (w : Int64) (ha : ¬ w < a.toInt64 - pd.toInt64) (hc : w < c.toInt64 - pd.toInt64) : M7 ⟨0, 0, 0, 0⟩ [.ref 2, .int 0, .int pd] [(.inr (.int, [.int 0, .int 1]) : ACell), (.inr (.int, [.int 1, .int 1]) : ACell), (.inl (0, [.ref 3, .ref 4, .ref 0, .ref 5, .long w, .ref 6, .ref 7, .ref 8, .long (a).toInt64]) : ACell), (.inr (.long, [.long 0, .long 0, .long 0, .long 0, .long 0, .long 0, .long 0, .long 0, .long 0, .long 0, .long 0, .long 0, .long 0, .long 0, .long 0, .long 0]) : ACell), (.inr (.int, [.int 0, .int 0, .int 0, .int 0, .int 0, .int 0, .int 0, .int 0, .int 0, .int 0, .int 0, .int 0, .int 0, .int 0, .int 0, .int 0]) : ACell), (.inr (.int, [.int 1, .int 2]) : ACell), (.inr (.int, [.int 0, .int 1]) : ACell), (.inr (.long, [.long (c).toInt64, .long (a).toInt64, .long 9223372036854775807]) : ACell), (.inr (.long, [.long 0, .long 0]) : ACell)] (Is (some (.int 0)) [(.inr (.int, [.int 0, .int 1]) : ACell), (.inr (.int, [.int 1, .int 1]) : ACell), (.inl (0, [.ref 3, .ref 4, .ref 0, .ref 5, .long w, .ref 6, .ref 7, .ref 8, .long (a).toInt64]) : ACell), (.inr (.long, [.long 0, .long 0, .long 0, .long 0, .long 0, .long 0, .long 0, .long 0, .long 0, .long 0, .long 0, .long 0, .long 0, .long 0, .long 0, .long 0]) : ACell), (.inr (.int, [.int 0, .int 0, .int 0, .int 0, .int 0, .int 0, .int 0, .int 0, .int 0, .int 0, .int 0, .int 0, .int 0, .int 0, .int 0, .int 0]) : ACell), (.inr (.int, [.int 1, .int 2]) : ACell), (.inr (.int, [.int 0, .int 1]) : ACell), (.inr (.long, [.long 9223372036854775807, .long (a).toInt64, .long 9223372036854775807]) : ACell), (.inr (.long, [.long 0, .long 0]) : ACell)]) := by
  refine e7 ?_
  refine s7_0 ?_
  refine s7_1 rfl ?_
  refine s7_2 ?_
  refine s7_3 rfl ?_
  refine s7_6 ?_
  refine s7_7 0 rfl (by decide) rfl ?_
  refine s7_8 rfl ?_
  refine s7_10 ?_
  refine s7_12 ?_
  refine s7_13 rfl ?_
  refine s7_16 ?_
  refine s7_17 0 rfl (by decide) rfl ?_
  refine s7_18 ?_
  refine s7_19 rfl ?_
  refine s7_22 ?_
  refine s7_23 0 rfl (by decide) rfl ?_
  refine s7_24 ?_
  refine s7_25 (fun h => absurd h (by decide)) (fun _ => ?_)
  refine s7_28 ?_
  refine s7_29 rfl ?_
  refine s7_32 ?_
  refine s7_34 0 rfl (by decide) rfl ?_
  refine s7_35 ?_
  refine s7_38c (fun h => absurd h (own_ne _)) (fun _ => ?_)
  refine s7_42 ?_
  refine s7_43 rfl ?_
  refine s7_46 ?_
  refine s7_48 0 rfl (by decide) rfl ?_
  refine s7_49 ?_
  refine s7_50 ?_
  refine s7_51 ?_
  refine s7_52 ?_
  refine s7_53 rfl ?_
  refine s7_56c (fun h => absurd hc h) (fun _ => ?_)
  refine s7_60 ?_
  refine s7_61 rfl ?_
  refine s7_64 ?_
  refine s7_66 ?_
  refine s7_69 0 rfl (by decide) rfl ?_
  refine s7_70 ?_
  refine s7_71 ?_
  refine s7_72 rfl ?_
  refine s7_75 ?_
  refine s7_77 0 rfl (by decide) rfl ?_
  refine s7_78 ?_
  refine s7_81c (fun _ => ?_) (fun h => absurd h (by decide))
  refine s7_89 ?_
  refine s7_90 ?_
  refine s7_91 rfl ?_
  refine s7_92 ?_
  refine s7_95 ?_
  refine s7_10 ?_
  refine s7_12 ?_
  refine s7_13 rfl ?_
  refine s7_16 ?_
  refine s7_17 0 rfl (by decide) rfl ?_
  refine s7_18 ?_
  refine s7_19 rfl ?_
  refine s7_22 ?_
  refine s7_23 0 rfl (by decide) rfl ?_
  refine s7_24 ?_
  refine s7_25 (fun _ => ?_) (fun h => absurd h (by decide))
  refine s7_98 ?_
  exact s7_99 ⟨rfl, rfl⟩
theorem own_r147 (a b c pd : Int32) (w : Int64) (ha : ¬ w < a.toInt64 - pd.toInt64) (hb : ¬ w < b.toInt64 - pd.toInt64) : M7 ⟨0, 0, 0, 0⟩ [.ref 2, .int 0, .int pd] [(.inr (.int, [.int 0, .int 1]) : ACell), (.inr (.int, [.int 1, .int 1]) : ACell), (.inl (0, [.ref 3, .ref 4, .ref 0, .ref 5, .long w, .ref 6, .ref 7, .ref 8, .long (b).toInt64]) : ACell), (.inr (.long, [.long 0, .long 0, .long 0, .long 0, .long 0, .long 0, .long 0, .long 0, .long 0, .long 0, .long 0, .long 0, .long 0, .long 0, .long 0, .long 0]) : ACell), (.inr (.int, [.int 0, .int 0, .int 0, .int 0, .int 0, .int 0, .int 0, .int 0, .int 0, .int 0, .int 0, .int 0, .int 0, .int 0, .int 0, .int 0]) : ACell), (.inr (.int, [.int 1, .int 2]) : ACell), (.inr (.int, [.int 0, .int 1]) : ACell), (.inr (.long, [.long 9223372036854775807, .long (a).toInt64, .long (b).toInt64]) : ACell), (.inr (.long, [.long 0, .long 0]) : ACell)] (Is (some (.int 0)) [(.inr (.int, [.int 0, .int 1]) : ACell), (.inr (.int, [.int 1, .int 1]) : ACell), (.inl (0, [.ref 3, .ref 4, .ref 0, .ref 5, .long w, .ref 6, .ref 7, .ref 8, .long (b).toInt64]) : ACell), (.inr (.long, [.long 0, .long 0, .long 0, .long 0, .long 0, .long 0, .long 0, .long 0, .long 0, .long 0, .long 0, .long 0, .long 0, .long 0, .long 0, .long 0]) : ACell), (.inr (.int, [.int 0, .int 0, .int 0, .int 0, .int 0, .int 0, .int 0, .int 0, .int 0, .int 0, .int 0, .int 0, .int 0, .int 0, .int 0, .int 0]) : ACell), (.inr (.int, [.int 1, .int 2]) : ACell), (.inr (.int, [.int 0, .int 1]) : ACell), (.inr (.long, [.long 9223372036854775807, .long (a).toInt64, .long (b).toInt64]) : ACell), (.inr (.long, [.long 0, .long 0]) : ACell)]) := by
  refine e7 ?_
  refine s7_0 ?_
  refine s7_1 rfl ?_
  refine s7_2 ?_
  refine s7_3 rfl ?_
  refine s7_6 ?_
  refine s7_7 0 rfl (by decide) rfl ?_
  refine s7_8 rfl ?_
  refine s7_10 ?_
  refine s7_12 ?_
  refine s7_13 rfl ?_
  refine s7_16 ?_
  refine s7_17 0 rfl (by decide) rfl ?_
  refine s7_18 ?_
  refine s7_19 rfl ?_
  refine s7_22 ?_
  refine s7_23 0 rfl (by decide) rfl ?_
  refine s7_24 ?_
  refine s7_25 (fun h => absurd h (by decide)) (fun _ => ?_)
  refine s7_28 ?_
  refine s7_29 rfl ?_
  refine s7_32 ?_
  refine s7_34 0 rfl (by decide) rfl ?_
  refine s7_35 ?_
  refine s7_38c (fun _ => ?_) (fun h => absurd h (by decide))
  refine s7_70 ?_
  refine s7_71 ?_
  refine s7_72 rfl ?_
  refine s7_75 ?_
  refine s7_77 0 rfl (by decide) rfl ?_
  refine s7_78 ?_
  refine s7_81c (fun _ => ?_) (fun h => absurd h (by decide))
  refine s7_89 ?_
  refine s7_90 ?_
  refine s7_91 rfl ?_
  refine s7_92 ?_
  refine s7_95 ?_
  refine s7_10 ?_
  refine s7_12 ?_
  refine s7_13 rfl ?_
  refine s7_16 ?_
  refine s7_17 0 rfl (by decide) rfl ?_
  refine s7_18 ?_
  refine s7_19 rfl ?_
  refine s7_22 ?_
  refine s7_23 0 rfl (by decide) rfl ?_
  refine s7_24 ?_
  refine s7_25 (fun _ => ?_) (fun h => absurd h (by decide))
  refine s7_98 ?_
  exact s7_99 ⟨rfl, rfl⟩
theorem own_r149 (a b c pd : Int32) (w : Int64) (ha : ¬ w < a.toInt64 - pd.toInt64) (hb : ¬ w < b.toInt64 - pd.toInt64) (hc : ¬ w < c.toInt64 - pd.toInt64) : M7 ⟨0, 0, 0, 0⟩ [.ref 2, .int 0, .int pd] [(.inr (.int, [.int 0, .int 1]) : ACell), (.inr (.int, [.int 1, .int 1]) : ACell), (.inl (0, [.ref 3, .ref 4, .ref 0, .ref 5, .long w, .ref 6, .ref 7, .ref 8, .long (b).toInt64]) : ACell), (.inr (.long, [.long 0, .long 0, .long 0, .long 0, .long 0, .long 0, .long 0, .long 0, .long 0, .long 0, .long 0, .long 0, .long 0, .long 0, .long 0, .long 0]) : ACell), (.inr (.int, [.int 0, .int 0, .int 0, .int 0, .int 0, .int 0, .int 0, .int 0, .int 0, .int 0, .int 0, .int 0, .int 0, .int 0, .int 0, .int 0]) : ACell), (.inr (.int, [.int 1, .int 2]) : ACell), (.inr (.int, [.int 0, .int 1]) : ACell), (.inr (.long, [.long (c).toInt64, .long (a).toInt64, .long (b).toInt64]) : ACell), (.inr (.long, [.long 0, .long 0]) : ACell)] (Is (some (.int 1)) [(.inr (.int, [.int 0, .int 1]) : ACell), (.inr (.int, [.int 1, .int 1]) : ACell), (.inl (0, [.ref 3, .ref 4, .ref 0, .ref 5, .long w, .ref 6, .ref 7, .ref 8, .long (b).toInt64]) : ACell), (.inr (.long, [.long 0, .long 0, .long 0, .long 0, .long 0, .long 0, .long 0, .long 0, .long 0, .long 0, .long 0, .long 0, .long 0, .long 0, .long 0, .long 0]) : ACell), (.inr (.int, [.int 0, .int 0, .int 0, .int 0, .int 0, .int 0, .int 0, .int 0, .int 0, .int 0, .int 0, .int 0, .int 0, .int 0, .int 0, .int 0]) : ACell), (.inr (.int, [.int 1, .int 2]) : ACell), (.inr (.int, [.int 0, .int 1]) : ACell), (.inr (.long, [.long (c).toInt64, .long (a).toInt64, .long (b).toInt64]) : ACell), (.inr (.long, [.long 0, .long 0]) : ACell)]) := by
  refine e7 ?_
  refine s7_0 ?_
  refine s7_1 rfl ?_
  refine s7_2 ?_
  refine s7_3 rfl ?_
  refine s7_6 ?_
  refine s7_7 0 rfl (by decide) rfl ?_
  refine s7_8 rfl ?_
  refine s7_10 ?_
  refine s7_12 ?_
  refine s7_13 rfl ?_
  refine s7_16 ?_
  refine s7_17 0 rfl (by decide) rfl ?_
  refine s7_18 ?_
  refine s7_19 rfl ?_
  refine s7_22 ?_
  refine s7_23 0 rfl (by decide) rfl ?_
  refine s7_24 ?_
  refine s7_25 (fun h => absurd h (by decide)) (fun _ => ?_)
  refine s7_28 ?_
  refine s7_29 rfl ?_
  refine s7_32 ?_
  refine s7_34 0 rfl (by decide) rfl ?_
  refine s7_35 ?_
  refine s7_38c (fun h => absurd h (own_ne _)) (fun _ => ?_)
  refine s7_42 ?_
  refine s7_43 rfl ?_
  refine s7_46 ?_
  refine s7_48 0 rfl (by decide) rfl ?_
  refine s7_49 ?_
  refine s7_50 ?_
  refine s7_51 ?_
  refine s7_52 ?_
  refine s7_53 rfl ?_
  refine s7_56c (fun _ => ?_) (fun h => absurd h hc)
  refine s7_70 ?_
  refine s7_71 ?_
  refine s7_72 rfl ?_
  refine s7_75 ?_
  refine s7_77 0 rfl (by decide) rfl ?_
  refine s7_78 ?_
  refine s7_81c (fun h => absurd h (own_ne _)) (fun _ => ?_)
  refine s7_85 ?_
  refine s7_86 ?_
  refine s7_90 ?_
  refine s7_91 rfl ?_
  refine s7_92 ?_
  refine s7_95 ?_
  refine s7_10 ?_
  refine s7_12 ?_
  refine s7_13 rfl ?_
  refine s7_16 ?_
  refine s7_17 0 rfl (by decide) rfl ?_
  refine s7_18 ?_
  refine s7_19 rfl ?_
  refine s7_22 ?_
  refine s7_23 0 rfl (by decide) rfl ?_
  refine s7_24 ?_
  refine s7_25 (fun _ => ?_) (fun h => absurd h (by decide))
  refine s7_98 ?_
  exact s7_99 ⟨rfl, rfl⟩
theorem own_r151 (a b c pd : Int32) (w : Int64) (ha : ¬ w < a.toInt64 - pd.toInt64) (hb : ¬ w < b.toInt64 - pd.toInt64) (hc : w < c.toInt64 - pd.toInt64) : M7 ⟨0, 0, 0, 0⟩ [.ref 2, .int 0, .int pd] [(.inr (.int, [.int 0, .int 1]) : ACell), (.inr (.int, [.int 1, .int 1]) : ACell), (.inl (0, [.ref 3, .ref 4, .ref 0, .ref 5, .long w, .ref 6, .ref 7, .ref 8, .long (b).toInt64]) : ACell), (.inr (.long, [.long 0, .long 0, .long 0, .long 0, .long 0, .long 0, .long 0, .long 0, .long 0, .long 0, .long 0, .long 0, .long 0, .long 0, .long 0, .long 0]) : ACell), (.inr (.int, [.int 0, .int 0, .int 0, .int 0, .int 0, .int 0, .int 0, .int 0, .int 0, .int 0, .int 0, .int 0, .int 0, .int 0, .int 0, .int 0]) : ACell), (.inr (.int, [.int 1, .int 2]) : ACell), (.inr (.int, [.int 0, .int 1]) : ACell), (.inr (.long, [.long (c).toInt64, .long (a).toInt64, .long (b).toInt64]) : ACell), (.inr (.long, [.long 0, .long 0]) : ACell)] (Is (some (.int 0)) [(.inr (.int, [.int 0, .int 1]) : ACell), (.inr (.int, [.int 1, .int 1]) : ACell), (.inl (0, [.ref 3, .ref 4, .ref 0, .ref 5, .long w, .ref 6, .ref 7, .ref 8, .long (b).toInt64]) : ACell), (.inr (.long, [.long 0, .long 0, .long 0, .long 0, .long 0, .long 0, .long 0, .long 0, .long 0, .long 0, .long 0, .long 0, .long 0, .long 0, .long 0, .long 0]) : ACell), (.inr (.int, [.int 0, .int 0, .int 0, .int 0, .int 0, .int 0, .int 0, .int 0, .int 0, .int 0, .int 0, .int 0, .int 0, .int 0, .int 0, .int 0]) : ACell), (.inr (.int, [.int 1, .int 2]) : ACell), (.inr (.int, [.int 0, .int 1]) : ACell), (.inr (.long, [.long 9223372036854775807, .long (a).toInt64, .long (b).toInt64]) : ACell), (.inr (.long, [.long 0, .long 0]) : ACell)]) := by
  refine e7 ?_
  refine s7_0 ?_
  refine s7_1 rfl ?_
  refine s7_2 ?_
  refine s7_3 rfl ?_
  refine s7_6 ?_
  refine s7_7 0 rfl (by decide) rfl ?_
  refine s7_8 rfl ?_
  refine s7_10 ?_
  refine s7_12 ?_
  refine s7_13 rfl ?_
  refine s7_16 ?_
  refine s7_17 0 rfl (by decide) rfl ?_
  refine s7_18 ?_
  refine s7_19 rfl ?_
  refine s7_22 ?_
  refine s7_23 0 rfl (by decide) rfl ?_
  refine s7_24 ?_
  refine s7_25 (fun h => absurd h (by decide)) (fun _ => ?_)
  refine s7_28 ?_
  refine s7_29 rfl ?_
  refine s7_32 ?_
  refine s7_34 0 rfl (by decide) rfl ?_
  refine s7_35 ?_
  refine s7_38c (fun h => absurd h (own_ne _)) (fun _ => ?_)
  refine s7_42 ?_
  refine s7_43 rfl ?_
  refine s7_46 ?_
  refine s7_48 0 rfl (by decide) rfl ?_
  refine s7_49 ?_
  refine s7_50 ?_
  refine s7_51 ?_
  refine s7_52 ?_
  refine s7_53 rfl ?_
  refine s7_56c (fun h => absurd hc h) (fun _ => ?_)
  refine s7_60 ?_
  refine s7_61 rfl ?_
  refine s7_64 ?_
  refine s7_66 ?_
  refine s7_69 0 rfl (by decide) rfl ?_
  refine s7_70 ?_
  refine s7_71 ?_
  refine s7_72 rfl ?_
  refine s7_75 ?_
  refine s7_77 0 rfl (by decide) rfl ?_
  refine s7_78 ?_
  refine s7_81c (fun _ => ?_) (fun h => absurd h (by decide))
  refine s7_89 ?_
  refine s7_90 ?_
  refine s7_91 rfl ?_
  refine s7_92 ?_
  refine s7_95 ?_
  refine s7_10 ?_
  refine s7_12 ?_
  refine s7_13 rfl ?_
  refine s7_16 ?_
  refine s7_17 0 rfl (by decide) rfl ?_
  refine s7_18 ?_
  refine s7_19 rfl ?_
  refine s7_22 ?_
  refine s7_23 0 rfl (by decide) rfl ?_
  refine s7_24 ?_
  refine s7_25 (fun _ => ?_) (fun h => absurd h (by decide))
  refine s7_98 ?_
  exact s7_99 ⟨rfl, rfl⟩
theorem own_r153 (a b c pd : Int32) (w : Int64) (ha : ¬ w < a.toInt64 - pd.toInt64) (hb : w < b.toInt64 - pd.toInt64) : M7 ⟨0, 0, 0, 0⟩ [.ref 2, .int 0, .int pd] [(.inr (.int, [.int 0, .int 1]) : ACell), (.inr (.int, [.int 1, .int 1]) : ACell), (.inl (0, [.ref 3, .ref 4, .ref 0, .ref 5, .long w, .ref 6, .ref 7, .ref 8, .long (b).toInt64]) : ACell), (.inr (.long, [.long 0, .long 0, .long 0, .long 0, .long 0, .long 0, .long 0, .long 0, .long 0, .long 0, .long 0, .long 0, .long 0, .long 0, .long 0, .long 0]) : ACell), (.inr (.int, [.int 0, .int 0, .int 0, .int 0, .int 0, .int 0, .int 0, .int 0, .int 0, .int 0, .int 0, .int 0, .int 0, .int 0, .int 0, .int 0]) : ACell), (.inr (.int, [.int 1, .int 2]) : ACell), (.inr (.int, [.int 0, .int 1]) : ACell), (.inr (.long, [.long 9223372036854775807, .long (a).toInt64, .long (b).toInt64]) : ACell), (.inr (.long, [.long 0, .long 0]) : ACell)] (Is (some (.int 0)) [(.inr (.int, [.int 0, .int 1]) : ACell), (.inr (.int, [.int 1, .int 1]) : ACell), (.inl (0, [.ref 3, .ref 4, .ref 0, .ref 5, .long w, .ref 6, .ref 7, .ref 8, .long (b).toInt64]) : ACell), (.inr (.long, [.long 0, .long 0, .long 0, .long 0, .long 0, .long 0, .long 0, .long 0, .long 0, .long 0, .long 0, .long 0, .long 0, .long 0, .long 0, .long 0]) : ACell), (.inr (.int, [.int 0, .int 0, .int 0, .int 0, .int 0, .int 0, .int 0, .int 0, .int 0, .int 0, .int 0, .int 0, .int 0, .int 0, .int 0, .int 0]) : ACell), (.inr (.int, [.int 1, .int 2]) : ACell), (.inr (.int, [.int 0, .int 1]) : ACell), (.inr (.long, [.long 9223372036854775807, .long (a).toInt64, .long (b).toInt64]) : ACell), (.inr (.long, [.long 0, .long 0]) : ACell)]) := by
  refine e7 ?_
  refine s7_0 ?_
  refine s7_1 rfl ?_
  refine s7_2 ?_
  refine s7_3 rfl ?_
  refine s7_6 ?_
  refine s7_7 0 rfl (by decide) rfl ?_
  refine s7_8 rfl ?_
  refine s7_10 ?_
  refine s7_12 ?_
  refine s7_13 rfl ?_
  refine s7_16 ?_
  refine s7_17 0 rfl (by decide) rfl ?_
  refine s7_18 ?_
  refine s7_19 rfl ?_
  refine s7_22 ?_
  refine s7_23 0 rfl (by decide) rfl ?_
  refine s7_24 ?_
  refine s7_25 (fun h => absurd h (by decide)) (fun _ => ?_)
  refine s7_28 ?_
  refine s7_29 rfl ?_
  refine s7_32 ?_
  refine s7_34 0 rfl (by decide) rfl ?_
  refine s7_35 ?_
  refine s7_38c (fun _ => ?_) (fun h => absurd h (by decide))
  refine s7_70 ?_
  refine s7_71 ?_
  refine s7_72 rfl ?_
  refine s7_75 ?_
  refine s7_77 0 rfl (by decide) rfl ?_
  refine s7_78 ?_
  refine s7_81c (fun _ => ?_) (fun h => absurd h (by decide))
  refine s7_89 ?_
  refine s7_90 ?_
  refine s7_91 rfl ?_
  refine s7_92 ?_
  refine s7_95 ?_
  refine s7_10 ?_
  refine s7_12 ?_
  refine s7_13 rfl ?_
  refine s7_16 ?_
  refine s7_17 0 rfl (by decide) rfl ?_
  refine s7_18 ?_
  refine s7_19 rfl ?_
  refine s7_22 ?_
  refine s7_23 0 rfl (by decide) rfl ?_
  refine s7_24 ?_
  refine s7_25 (fun _ => ?_) (fun h => absurd h (by decide))
  refine s7_98 ?_
  exact s7_99 ⟨rfl, rfl⟩
theorem own_r155 (a b c pd : Int32) (w : Int64) (ha : ¬ w < a.toInt64 - pd.toInt64) (hb : w < b.toInt64 - pd.toInt64) (hc : ¬ w < c.toInt64 - pd.toInt64) : M7 ⟨0, 0, 0, 0⟩ [.ref 2, .int 0, .int pd] [(.inr (.int, [.int 0, .int 1]) : ACell), (.inr (.int, [.int 1, .int 1]) : ACell), (.inl (0, [.ref 3, .ref 4, .ref 0, .ref 5, .long w, .ref 6, .ref 7, .ref 8, .long (b).toInt64]) : ACell), (.inr (.long, [.long 0, .long 0, .long 0, .long 0, .long 0, .long 0, .long 0, .long 0, .long 0, .long 0, .long 0, .long 0, .long 0, .long 0, .long 0, .long 0]) : ACell), (.inr (.int, [.int 0, .int 0, .int 0, .int 0, .int 0, .int 0, .int 0, .int 0, .int 0, .int 0, .int 0, .int 0, .int 0, .int 0, .int 0, .int 0]) : ACell), (.inr (.int, [.int 1, .int 2]) : ACell), (.inr (.int, [.int 0, .int 1]) : ACell), (.inr (.long, [.long (c).toInt64, .long (a).toInt64, .long (b).toInt64]) : ACell), (.inr (.long, [.long 0, .long 0]) : ACell)] (Is (some (.int 1)) [(.inr (.int, [.int 0, .int 1]) : ACell), (.inr (.int, [.int 1, .int 1]) : ACell), (.inl (0, [.ref 3, .ref 4, .ref 0, .ref 5, .long w, .ref 6, .ref 7, .ref 8, .long (b).toInt64]) : ACell), (.inr (.long, [.long 0, .long 0, .long 0, .long 0, .long 0, .long 0, .long 0, .long 0, .long 0, .long 0, .long 0, .long 0, .long 0, .long 0, .long 0, .long 0]) : ACell), (.inr (.int, [.int 0, .int 0, .int 0, .int 0, .int 0, .int 0, .int 0, .int 0, .int 0, .int 0, .int 0, .int 0, .int 0, .int 0, .int 0, .int 0]) : ACell), (.inr (.int, [.int 1, .int 2]) : ACell), (.inr (.int, [.int 0, .int 1]) : ACell), (.inr (.long, [.long (c).toInt64, .long (a).toInt64, .long (b).toInt64]) : ACell), (.inr (.long, [.long 0, .long 0]) : ACell)]) := by
  refine e7 ?_
  refine s7_0 ?_
  refine s7_1 rfl ?_
  refine s7_2 ?_
  refine s7_3 rfl ?_
  refine s7_6 ?_
  refine s7_7 0 rfl (by decide) rfl ?_
  refine s7_8 rfl ?_
  refine s7_10 ?_
  refine s7_12 ?_
  refine s7_13 rfl ?_
  refine s7_16 ?_
  refine s7_17 0 rfl (by decide) rfl ?_
  refine s7_18 ?_
  refine s7_19 rfl ?_
  refine s7_22 ?_
  refine s7_23 0 rfl (by decide) rfl ?_
  refine s7_24 ?_
  refine s7_25 (fun h => absurd h (by decide)) (fun _ => ?_)
  refine s7_28 ?_
  refine s7_29 rfl ?_
  refine s7_32 ?_
  refine s7_34 0 rfl (by decide) rfl ?_
  refine s7_35 ?_
  refine s7_38c (fun h => absurd h (own_ne _)) (fun _ => ?_)
  refine s7_42 ?_
  refine s7_43 rfl ?_
  refine s7_46 ?_
  refine s7_48 0 rfl (by decide) rfl ?_
  refine s7_49 ?_
  refine s7_50 ?_
  refine s7_51 ?_
  refine s7_52 ?_
  refine s7_53 rfl ?_
  refine s7_56c (fun _ => ?_) (fun h => absurd h hc)
  refine s7_70 ?_
  refine s7_71 ?_
  refine s7_72 rfl ?_
  refine s7_75 ?_
  refine s7_77 0 rfl (by decide) rfl ?_
  refine s7_78 ?_
  refine s7_81c (fun h => absurd h (own_ne _)) (fun _ => ?_)
  refine s7_85 ?_
  refine s7_86 ?_
  refine s7_90 ?_
  refine s7_91 rfl ?_
  refine s7_92 ?_
  refine s7_95 ?_
  refine s7_10 ?_
  refine s7_12 ?_
  refine s7_13 rfl ?_
  refine s7_16 ?_
  refine s7_17 0 rfl (by decide) rfl ?_
  refine s7_18 ?_
  refine s7_19 rfl ?_
  refine s7_22 ?_
  refine s7_23 0 rfl (by decide) rfl ?_
  refine s7_24 ?_
  refine s7_25 (fun _ => ?_) (fun h => absurd h (by decide))
  refine s7_98 ?_
  exact s7_99 ⟨rfl, rfl⟩
theorem own_r157 (a b c pd : Int32) (w : Int64) (ha : ¬ w < a.toInt64 - pd.toInt64) (hb : w < b.toInt64 - pd.toInt64) (hc : w < c.toInt64 - pd.toInt64) : M7 ⟨0, 0, 0, 0⟩ [.ref 2, .int 0, .int pd] [(.inr (.int, [.int 0, .int 1]) : ACell), (.inr (.int, [.int 1, .int 1]) : ACell), (.inl (0, [.ref 3, .ref 4, .ref 0, .ref 5, .long w, .ref 6, .ref 7, .ref 8, .long (b).toInt64]) : ACell), (.inr (.long, [.long 0, .long 0, .long 0, .long 0, .long 0, .long 0, .long 0, .long 0, .long 0, .long 0, .long 0, .long 0, .long 0, .long 0, .long 0, .long 0]) : ACell), (.inr (.int, [.int 0, .int 0, .int 0, .int 0, .int 0, .int 0, .int 0, .int 0, .int 0, .int 0, .int 0, .int 0, .int 0, .int 0, .int 0, .int 0]) : ACell), (.inr (.int, [.int 1, .int 2]) : ACell), (.inr (.int, [.int 0, .int 1]) : ACell), (.inr (.long, [.long (c).toInt64, .long (a).toInt64, .long (b).toInt64]) : ACell), (.inr (.long, [.long 0, .long 0]) : ACell)] (Is (some (.int 0)) [(.inr (.int, [.int 0, .int 1]) : ACell), (.inr (.int, [.int 1, .int 1]) : ACell), (.inl (0, [.ref 3, .ref 4, .ref 0, .ref 5, .long w, .ref 6, .ref 7, .ref 8, .long (b).toInt64]) : ACell), (.inr (.long, [.long 0, .long 0, .long 0, .long 0, .long 0, .long 0, .long 0, .long 0, .long 0, .long 0, .long 0, .long 0, .long 0, .long 0, .long 0, .long 0]) : ACell), (.inr (.int, [.int 0, .int 0, .int 0, .int 0, .int 0, .int 0, .int 0, .int 0, .int 0, .int 0, .int 0, .int 0, .int 0, .int 0, .int 0, .int 0]) : ACell), (.inr (.int, [.int 1, .int 2]) : ACell), (.inr (.int, [.int 0, .int 1]) : ACell), (.inr (.long, [.long 9223372036854775807, .long (a).toInt64, .long (b).toInt64]) : ACell), (.inr (.long, [.long 0, .long 0]) : ACell)]) := by
  refine e7 ?_
  refine s7_0 ?_
  refine s7_1 rfl ?_
  refine s7_2 ?_
  refine s7_3 rfl ?_
  refine s7_6 ?_
  refine s7_7 0 rfl (by decide) rfl ?_
  refine s7_8 rfl ?_
  refine s7_10 ?_
  refine s7_12 ?_
  refine s7_13 rfl ?_
  refine s7_16 ?_
  refine s7_17 0 rfl (by decide) rfl ?_
  refine s7_18 ?_
  refine s7_19 rfl ?_
  refine s7_22 ?_
  refine s7_23 0 rfl (by decide) rfl ?_
  refine s7_24 ?_
  refine s7_25 (fun h => absurd h (by decide)) (fun _ => ?_)
  refine s7_28 ?_
  refine s7_29 rfl ?_
  refine s7_32 ?_
  refine s7_34 0 rfl (by decide) rfl ?_
  refine s7_35 ?_
  refine s7_38c (fun h => absurd h (own_ne _)) (fun _ => ?_)
  refine s7_42 ?_
  refine s7_43 rfl ?_
  refine s7_46 ?_
  refine s7_48 0 rfl (by decide) rfl ?_
  refine s7_49 ?_
  refine s7_50 ?_
  refine s7_51 ?_
  refine s7_52 ?_
  refine s7_53 rfl ?_
  refine s7_56c (fun h => absurd hc h) (fun _ => ?_)
  refine s7_60 ?_
  refine s7_61 rfl ?_
  refine s7_64 ?_
  refine s7_66 ?_
  refine s7_69 0 rfl (by decide) rfl ?_
  refine s7_70 ?_
  refine s7_71 ?_
  refine s7_72 rfl ?_
  refine s7_75 ?_
  refine s7_77 0 rfl (by decide) rfl ?_
  refine s7_78 ?_
  refine s7_81c (fun _ => ?_) (fun h => absurd h (by decide))
  refine s7_89 ?_
  refine s7_90 ?_
  refine s7_91 rfl ?_
  refine s7_92 ?_
  refine s7_95 ?_
  refine s7_10 ?_
  refine s7_12 ?_
  refine s7_13 rfl ?_
  refine s7_16 ?_
  refine s7_17 0 rfl (by decide) rfl ?_
  refine s7_18 ?_
  refine s7_19 rfl ?_
  refine s7_22 ?_
  refine s7_23 0 rfl (by decide) rfl ?_
  refine s7_24 ?_
  refine s7_25 (fun _ => ?_) (fun h => absurd h (by decide))
  refine s7_98 ?_
  exact s7_99 ⟨rfl, rfl⟩
theorem own_r159 (a b c pd : Int32) (w : Int64) (ha : w < a.toInt64 - pd.toInt64) : M7 ⟨0, 0, 0, 0⟩ [.ref 2, .int 0, .int pd] [(.inr (.int, [.int 0, .int 1]) : ACell), (.inr (.int, [.int 1, .int 1]) : ACell), (.inl (0, [.ref 3, .ref 4, .ref 0, .ref 5, .long w, .ref 6, .ref 7, .ref 8, .long (a).toInt64]) : ACell), (.inr (.long, [.long 0, .long 0, .long 0, .long 0, .long 0, .long 0, .long 0, .long 0, .long 0, .long 0, .long 0, .long 0, .long 0, .long 0, .long 0, .long 0]) : ACell), (.inr (.int, [.int 0, .int 0, .int 0, .int 0, .int 0, .int 0, .int 0, .int 0, .int 0, .int 0, .int 0, .int 0, .int 0, .int 0, .int 0, .int 0]) : ACell), (.inr (.int, [.int 1, .int 2]) : ACell), (.inr (.int, [.int 0, .int 1]) : ACell), (.inr (.long, [.long 9223372036854775807, .long (a).toInt64, .long 9223372036854775807]) : ACell), (.inr (.long, [.long 0, .long 0]) : ACell)] (Is (some (.int 0)) [(.inr (.int, [.int 0, .int 1]) : ACell), (.inr (.int, [.int 1, .int 1]) : ACell), (.inl (0, [.ref 3, .ref 4, .ref 0, .ref 5, .long w, .ref 6, .ref 7, .ref 8, .long (a).toInt64]) : ACell), (.inr (.long, [.long 0, .long 0, .long 0, .long 0, .long 0, .long 0, .long 0, .long 0, .long 0, .long 0, .long 0, .long 0, .long 0, .long 0, .long 0, .long 0]) : ACell), (.inr (.int, [.int 0, .int 0, .int 0, .int 0, .int 0, .int 0, .int 0, .int 0, .int 0, .int 0, .int 0, .int 0, .int 0, .int 0, .int 0, .int 0]) : ACell), (.inr (.int, [.int 1, .int 2]) : ACell), (.inr (.int, [.int 0, .int 1]) : ACell), (.inr (.long, [.long 9223372036854775807, .long (a).toInt64, .long 9223372036854775807]) : ACell), (.inr (.long, [.long 0, .long 0]) : ACell)]) := by
  refine e7 ?_
  refine s7_0 ?_
  refine s7_1 rfl ?_
  refine s7_2 ?_
  refine s7_3 rfl ?_
  refine s7_6 ?_
  refine s7_7 0 rfl (by decide) rfl ?_
  refine s7_8 rfl ?_
  refine s7_10 ?_
  refine s7_12 ?_
  refine s7_13 rfl ?_
  refine s7_16 ?_
  refine s7_17 0 rfl (by decide) rfl ?_
  refine s7_18 ?_
  refine s7_19 rfl ?_
  refine s7_22 ?_
  refine s7_23 0 rfl (by decide) rfl ?_
  refine s7_24 ?_
  refine s7_25 (fun h => absurd h (by decide)) (fun _ => ?_)
  refine s7_28 ?_
  refine s7_29 rfl ?_
  refine s7_32 ?_
  refine s7_34 0 rfl (by decide) rfl ?_
  refine s7_35 ?_
  refine s7_38c (fun _ => ?_) (fun h => absurd h (by decide))
  refine s7_70 ?_
  refine s7_71 ?_
  refine s7_72 rfl ?_
  refine s7_75 ?_
  refine s7_77 0 rfl (by decide) rfl ?_
  refine s7_78 ?_
  refine s7_81c (fun _ => ?_) (fun h => absurd h (by decide))
  refine s7_89 ?_
  refine s7_90 ?_
  refine s7_91 rfl ?_
  refine s7_92 ?_
  refine s7_95 ?_
  refine s7_10 ?_
  refine s7_12 ?_
  refine s7_13 rfl ?_
  refine s7_16 ?_
  refine s7_17 0 rfl (by decide) rfl ?_
  refine s7_18 ?_
  refine s7_19 rfl ?_
  refine s7_22 ?_
  refine s7_23 0 rfl (by decide) rfl ?_
  refine s7_24 ?_
  refine s7_25 (fun _ => ?_) (fun h => absurd h (by decide))
  refine s7_98 ?_
  exact s7_99 ⟨rfl, rfl⟩
theorem own_r161 (a b c pd : Int32) (w : Int64) (ha : w < a.toInt64 - pd.toInt64) (hc : ¬ w < c.toInt64 - pd.toInt64) : M7 ⟨0, 0, 0, 0⟩ [.ref 2, .int 0, .int pd] [(.inr (.int, [.int 0, .int 1]) : ACell), (.inr (.int, [.int 1, .int 1]) : ACell), (.inl (0, [.ref 3, .ref 4, .ref 0, .ref 5, .long w, .ref 6, .ref 7, .ref 8, .long (a).toInt64]) : ACell), (.inr (.long, [.long 0, .long 0, .long 0, .long 0, .long 0, .long 0, .long 0, .long 0, .long 0, .long 0, .long 0, .long 0, .long 0, .long 0, .long 0, .long 0]) : ACell), (.inr (.int, [.int 0, .int 0, .int 0, .int 0, .int 0, .int 0, .int 0, .int 0, .int 0, .int 0, .int 0, .int 0, .int 0, .int 0, .int 0, .int 0]) : ACell), (.inr (.int, [.int 1, .int 2]) : ACell), (.inr (.int, [.int 0, .int 1]) : ACell), (.inr (.long, [.long (c).toInt64, .long (a).toInt64, .long 9223372036854775807]) : ACell), (.inr (.long, [.long 0, .long 0]) : ACell)] (Is (some (.int 1)) [(.inr (.int, [.int 0, .int 1]) : ACell), (.inr (.int, [.int 1, .int 1]) : ACell), (.inl (0, [.ref 3, .ref 4, .ref 0, .ref 5, .long w, .ref 6, .ref 7, .ref 8, .long (a).toInt64]) : ACell), (.inr (.long, [.long 0, .long 0, .long 0, .long 0, .long 0, .long 0, .long 0, .long 0, .long 0, .long 0, .long 0, .long 0, .long 0, .long 0, .long 0, .long 0]) : ACell), (.inr (.int, [.int 0, .int 0, .int 0, .int 0, .int 0, .int 0, .int 0, .int 0, .int 0, .int 0, .int 0, .int 0, .int 0, .int 0, .int 0, .int 0]) : ACell), (.inr (.int, [.int 1, .int 2]) : ACell), (.inr (.int, [.int 0, .int 1]) : ACell), (.inr (.long, [.long (c).toInt64, .long (a).toInt64, .long 9223372036854775807]) : ACell), (.inr (.long, [.long 0, .long 0]) : ACell)]) := by
  refine e7 ?_
  refine s7_0 ?_
  refine s7_1 rfl ?_
  refine s7_2 ?_
  refine s7_3 rfl ?_
  refine s7_6 ?_
  refine s7_7 0 rfl (by decide) rfl ?_
  refine s7_8 rfl ?_
  refine s7_10 ?_
  refine s7_12 ?_
  refine s7_13 rfl ?_
  refine s7_16 ?_
  refine s7_17 0 rfl (by decide) rfl ?_
  refine s7_18 ?_
  refine s7_19 rfl ?_
  refine s7_22 ?_
  refine s7_23 0 rfl (by decide) rfl ?_
  refine s7_24 ?_
  refine s7_25 (fun h => absurd h (by decide)) (fun _ => ?_)
  refine s7_28 ?_
  refine s7_29 rfl ?_
  refine s7_32 ?_
  refine s7_34 0 rfl (by decide) rfl ?_
  refine s7_35 ?_
  refine s7_38c (fun h => absurd h (own_ne _)) (fun _ => ?_)
  refine s7_42 ?_
  refine s7_43 rfl ?_
  refine s7_46 ?_
  refine s7_48 0 rfl (by decide) rfl ?_
  refine s7_49 ?_
  refine s7_50 ?_
  refine s7_51 ?_
  refine s7_52 ?_
  refine s7_53 rfl ?_
  refine s7_56c (fun _ => ?_) (fun h => absurd h hc)
  refine s7_70 ?_
  refine s7_71 ?_
  refine s7_72 rfl ?_
  refine s7_75 ?_
  refine s7_77 0 rfl (by decide) rfl ?_
  refine s7_78 ?_
  refine s7_81c (fun h => absurd h (own_ne _)) (fun _ => ?_)
  refine s7_85 ?_
  refine s7_86 ?_
  refine s7_90 ?_
  refine s7_91 rfl ?_
  refine s7_92 ?_
  refine s7_95 ?_
  refine s7_10 ?_
  refine s7_12 ?_
  refine s7_13 rfl ?_
  refine s7_16 ?_
  refine s7_17 0 rfl (by decide) rfl ?_
  refine s7_18 ?_
  refine s7_19 rfl ?_
  refine s7_22 ?_
  refine s7_23 0 rfl (by decide) rfl ?_
  refine s7_24 ?_
  refine s7_25 (fun _ => ?_) (fun h => absurd h (by decide))
  refine s7_98 ?_
  exact s7_99 ⟨rfl, rfl⟩
theorem own_r163 (a b c pd : Int32) (w : Int64) (ha : w < a.toInt64 - pd.toInt64) (hc : w < c.toInt64 - pd.toInt64) : M7 ⟨0, 0, 0, 0⟩ [.ref 2, .int 0, .int pd] [(.inr (.int, [.int 0, .int 1]) : ACell), (.inr (.int, [.int 1, .int 1]) : ACell), (.inl (0, [.ref 3, .ref 4, .ref 0, .ref 5, .long w, .ref 6, .ref 7, .ref 8, .long (a).toInt64]) : ACell), (.inr (.long, [.long 0, .long 0, .long 0, .long 0, .long 0, .long 0, .long 0, .long 0, .long 0, .long 0, .long 0, .long 0, .long 0, .long 0, .long 0, .long 0]) : ACell), (.inr (.int, [.int 0, .int 0, .int 0, .int 0, .int 0, .int 0, .int 0, .int 0, .int 0, .int 0, .int 0, .int 0, .int 0, .int 0, .int 0, .int 0]) : ACell), (.inr (.int, [.int 1, .int 2]) : ACell), (.inr (.int, [.int 0, .int 1]) : ACell), (.inr (.long, [.long (c).toInt64, .long (a).toInt64, .long 9223372036854775807]) : ACell), (.inr (.long, [.long 0, .long 0]) : ACell)] (Is (some (.int 0)) [(.inr (.int, [.int 0, .int 1]) : ACell), (.inr (.int, [.int 1, .int 1]) : ACell), (.inl (0, [.ref 3, .ref 4, .ref 0, .ref 5, .long w, .ref 6, .ref 7, .ref 8, .long (a).toInt64]) : ACell), (.inr (.long, [.long 0, .long 0, .long 0, .long 0, .long 0, .long 0, .long 0, .long 0, .long 0, .long 0, .long 0, .long 0, .long 0, .long 0, .long 0, .long 0]) : ACell), (.inr (.int, [.int 0, .int 0, .int 0, .int 0, .int 0, .int 0, .int 0, .int 0, .int 0, .int 0, .int 0, .int 0, .int 0, .int 0, .int 0, .int 0]) : ACell), (.inr (.int, [.int 1, .int 2]) : ACell), (.inr (.int, [.int 0, .int 1]) : ACell), (.inr (.long, [.long 9223372036854775807, .long (a).toInt64, .long 9223372036854775807]) : ACell), (.inr (.long, [.long 0, .long 0]) : ACell)]) := by
  refine e7 ?_
  refine s7_0 ?_
  refine s7_1 rfl ?_
  refine s7_2 ?_
  refine s7_3 rfl ?_
  refine s7_6 ?_
  refine s7_7 0 rfl (by decide) rfl ?_
  refine s7_8 rfl ?_
  refine s7_10 ?_
  refine s7_12 ?_
  refine s7_13 rfl ?_
  refine s7_16 ?_
  refine s7_17 0 rfl (by decide) rfl ?_
  refine s7_18 ?_
  refine s7_19 rfl ?_
  refine s7_22 ?_
  refine s7_23 0 rfl (by decide) rfl ?_
  refine s7_24 ?_
  refine s7_25 (fun h => absurd h (by decide)) (fun _ => ?_)
  refine s7_28 ?_
  refine s7_29 rfl ?_
  refine s7_32 ?_
  refine s7_34 0 rfl (by decide) rfl ?_
  refine s7_35 ?_
  refine s7_38c (fun h => absurd h (own_ne _)) (fun _ => ?_)
  refine s7_42 ?_
  refine s7_43 rfl ?_
  refine s7_46 ?_
  refine s7_48 0 rfl (by decide) rfl ?_
  refine s7_49 ?_
  refine s7_50 ?_
  refine s7_51 ?_
  refine s7_52 ?_
  refine s7_53 rfl ?_
  refine s7_56c (fun h => absurd hc h) (fun _ => ?_)
  refine s7_60 ?_
  refine s7_61 rfl ?_
  refine s7_64 ?_
  refine s7_66 ?_
  refine s7_69 0 rfl (by decide) rfl ?_
  refine s7_70 ?_
  refine s7_71 ?_
  refine s7_72 rfl ?_
  refine s7_75 ?_
  refine s7_77 0 rfl (by decide) rfl ?_
  refine s7_78 ?_
  refine s7_81c (fun _ => ?_) (fun h => absurd h (by decide))
  refine s7_89 ?_
  refine s7_90 ?_
  refine s7_91 rfl ?_
  refine s7_92 ?_
  refine s7_95 ?_
  refine s7_10 ?_
  refine s7_12 ?_
  refine s7_13 rfl ?_
  refine s7_16 ?_
  refine s7_17 0 rfl (by decide) rfl ?_
  refine s7_18 ?_
  refine s7_19 rfl ?_
  refine s7_22 ?_
  refine s7_23 0 rfl (by decide) rfl ?_
  refine s7_24 ?_
  refine s7_25 (fun _ => ?_) (fun h => absurd h (by decide))
  refine s7_98 ?_
  exact s7_99 ⟨rfl, rfl⟩
theorem own_r165 (a b c pd : Int32) (w : Int64) (ha : w < a.toInt64 - pd.toInt64) (hb : ¬ w < b.toInt64 - pd.toInt64) : M7 ⟨0, 0, 0, 0⟩ [.ref 2, .int 0, .int pd] [(.inr (.int, [.int 0, .int 1]) : ACell), (.inr (.int, [.int 1, .int 1]) : ACell), (.inl (0, [.ref 3, .ref 4, .ref 0, .ref 5, .long w, .ref 6, .ref 7, .ref 8, .long (b).toInt64]) : ACell), (.inr (.long, [.long 0, .long 0, .long 0, .long 0, .long 0, .long 0, .long 0, .long 0, .long 0, .long 0, .long 0, .long 0, .long 0, .long 0, .long 0, .long 0]) : ACell), (.inr (.int, [.int 0, .int 0, .int 0, .int 0, .int 0, .int 0, .int 0, .int 0, .int 0, .int 0, .int 0, .int 0, .int 0, .int 0, .int 0, .int 0]) : ACell), (.inr (.int, [.int 1, .int 2]) : ACell), (.inr (.int, [.int 0, .int 1]) : ACell), (.inr (.long, [.long 9223372036854775807, .long (a).toInt64, .long (b).toInt64]) : ACell), (.inr (.long, [.long 0, .long 0]) : ACell)] (Is (some (.int 0)) [(.inr (.int, [.int 0, .int 1]) : ACell), (.inr (.int, [.int 1, .int 1]) : ACell), (.inl (0, [.ref 3, .ref 4, .ref 0, .ref 5, .long w, .ref 6, .ref 7, .ref 8, .long (b).toInt64]) : ACell), (.inr (.long, [.long 0, .long 0, .long 0, .long 0, .long 0, .long 0, .long 0, .long 0, .long 0, .long 0, .long 0, .long 0, .long 0, .long 0, .long 0, .long 0]) : ACell), (.inr (.int, [.int 0, .int 0, .int 0, .int 0, .int 0, .int 0, .int 0, .int 0, .int 0, .int 0, .int 0, .int 0, .int 0, .int 0, .int 0, .int 0]) : ACell), (.inr (.int, [.int 1, .int 2]) : ACell), (.inr (.int, [.int 0, .int 1]) : ACell), (.inr (.long, [.long 9223372036854775807, .long (a).toInt64, .long (b).toInt64]) : ACell), (.inr (.long, [.long 0, .long 0]) : ACell)]) := by
  refine e7 ?_
  refine s7_0 ?_
  refine s7_1 rfl ?_
  refine s7_2 ?_
  refine s7_3 rfl ?_
  refine s7_6 ?_
  refine s7_7 0 rfl (by decide) rfl ?_
  refine s7_8 rfl ?_
  refine s7_10 ?_
  refine s7_12 ?_
  refine s7_13 rfl ?_
  refine s7_16 ?_
  refine s7_17 0 rfl (by decide) rfl ?_
  refine s7_18 ?_
  refine s7_19 rfl ?_
  refine s7_22 ?_
  refine s7_23 0 rfl (by decide) rfl ?_
  refine s7_24 ?_
  refine s7_25 (fun h => absurd h (by decide)) (fun _ => ?_)
  refine s7_28 ?_
  refine s7_29 rfl ?_
  refine s7_32 ?_
  refine s7_34 0 rfl (by decide) rfl ?_
  refine s7_35 ?_
  refine s7_38c (fun _ => ?_) (fun h => absurd h (by decide))
  refine s7_70 ?_
  refine s7_71 ?_
  refine s7_72 rfl ?_
  refine s7_75 ?_
  refine s7_77 0 rfl (by decide) rfl ?_
  refine s7_78 ?_
  refine s7_81c (fun _ => ?_) (fun h => absurd h (by decide))
  refine s7_89 ?_
  refine s7_90 ?_
  refine s7_91 rfl ?_
  refine s7_92 ?_
  refine s7_95 ?_
  refine s7_10 ?_
  refine s7_12 ?_
  refine s7_13 rfl ?_
  refine s7_16 ?_
  refine s7_17 0 rfl (by decide) rfl ?_
  refine s7_18 ?_
  refine s7_19 rfl ?_
  refine s7_22 ?_
  refine s7_23 0 rfl (by decide) rfl ?_
  refine s7_24 ?_
  refine s7_25 (fun _ => ?_) (fun h => absurd h (by decide))
  refine s7_98 ?_
  exact s7_99 ⟨rfl, rfl⟩
theorem own_r167 (a b c pd : Int32) (w : Int64) (ha : w < a.toInt64 - pd.toInt64) (hb : ¬ w < b.toInt64 - pd.toInt64) (hc : ¬ w < c.toInt64 - pd.toInt64) : M7 ⟨0, 0, 0, 0⟩ [.ref 2, .int 0, .int pd] [(.inr (.int, [.int 0, .int 1]) : ACell), (.inr (.int, [.int 1, .int 1]) : ACell), (.inl (0, [.ref 3, .ref 4, .ref 0, .ref 5, .long w, .ref 6, .ref 7, .ref 8, .long (b).toInt64]) : ACell), (.inr (.long, [.long 0, .long 0, .long 0, .long 0, .long 0, .long 0, .long 0, .long 0, .long 0, .long 0, .long 0, .long 0, .long 0, .long 0, .long 0, .long 0]) : ACell), (.inr (.int, [.int 0, .int 0, .int 0, .int 0, .int 0, .int 0, .int 0, .int 0, .int 0, .int 0, .int 0, .int 0, .int 0, .int 0, .int 0, .int 0]) : ACell), (.inr (.int, [.int 1, .int 2]) : ACell), (.inr (.int, [.int 0, .int 1]) : ACell), (.inr (.long, [.long (c).toInt64, .long (a).toInt64, .long (b).toInt64]) : ACell), (.inr (.long, [.long 0, .long 0]) : ACell)] (Is (some (.int 1)) [(.inr (.int, [.int 0, .int 1]) : ACell), (.inr (.int, [.int 1, .int 1]) : ACell), (.inl (0, [.ref 3, .ref 4, .ref 0, .ref 5, .long w, .ref 6, .ref 7, .ref 8, .long (b).toInt64]) : ACell), (.inr (.long, [.long 0, .long 0, .long 0, .long 0, .long 0, .long 0, .long 0, .long 0, .long 0, .long 0, .long 0, .long 0, .long 0, .long 0, .long 0, .long 0]) : ACell), (.inr (.int, [.int 0, .int 0, .int 0, .int 0, .int 0, .int 0, .int 0, .int 0, .int 0, .int 0, .int 0, .int 0, .int 0, .int 0, .int 0, .int 0]) : ACell), (.inr (.int, [.int 1, .int 2]) : ACell), (.inr (.int, [.int 0, .int 1]) : ACell), (.inr (.long, [.long (c).toInt64, .long (a).toInt64, .long (b).toInt64]) : ACell), (.inr (.long, [.long 0, .long 0]) : ACell)]) := by
  refine e7 ?_
  refine s7_0 ?_
  refine s7_1 rfl ?_
  refine s7_2 ?_
  refine s7_3 rfl ?_
  refine s7_6 ?_
  refine s7_7 0 rfl (by decide) rfl ?_
  refine s7_8 rfl ?_
  refine s7_10 ?_
  refine s7_12 ?_
  refine s7_13 rfl ?_
  refine s7_16 ?_
  refine s7_17 0 rfl (by decide) rfl ?_
  refine s7_18 ?_
  refine s7_19 rfl ?_
  refine s7_22 ?_
  refine s7_23 0 rfl (by decide) rfl ?_
  refine s7_24 ?_
  refine s7_25 (fun h => absurd h (by decide)) (fun _ => ?_)
  refine s7_28 ?_
  refine s7_29 rfl ?_
  refine s7_32 ?_
  refine s7_34 0 rfl (by decide) rfl ?_
  refine s7_35 ?_
  refine s7_38c (fun h => absurd h (own_ne _)) (fun _ => ?_)
  refine s7_42 ?_
  refine s7_43 rfl ?_
  refine s7_46 ?_
  refine s7_48 0 rfl (by decide) rfl ?_
  refine s7_49 ?_
  refine s7_50 ?_
  refine s7_51 ?_
  refine s7_52 ?_
  refine s7_53 rfl ?_
  refine s7_56c (fun _ => ?_) (fun h => absurd h hc)
  refine s7_70 ?_
  refine s7_71 ?_
  refine s7_72 rfl ?_
  refine s7_75 ?_
  refine s7_77 0 rfl (by decide) rfl ?_
  refine s7_78 ?_
  refine s7_81c (fun h => absurd h (own_ne _)) (fun _ => ?_)
  refine s7_85 ?_
  refine s7_86 ?_
  refine s7_90 ?_
  refine s7_91 rfl ?_
  refine s7_92 ?_
  refine s7_95 ?_
  refine s7_10 ?_
  refine s7_12 ?_
  refine s7_13 rfl ?_
  refine s7_16 ?_
  refine s7_17 0 rfl (by decide) rfl ?_
  refine s7_18 ?_
  refine s7_19 rfl ?_
  refine s7_22 ?_
  refine s7_23 0 rfl (by decide) rfl ?_
  refine s7_24 ?_
  refine s7_25 (fun _ => ?_) (fun h => absurd h (by decide))
  refine s7_98 ?_
  exact s7_99 ⟨rfl, rfl⟩
theorem own_r169 (a b c pd : Int32) (w : Int64) (ha : w < a.toInt64 - pd.toInt64) (hb : ¬ w < b.toInt64 - pd.toInt64) (hc : w < c.toInt64 - pd.toInt64) : M7 ⟨0, 0, 0, 0⟩ [.ref 2, .int 0, .int pd] [(.inr (.int, [.int 0, .int 1]) : ACell), (.inr (.int, [.int 1, .int 1]) : ACell), (.inl (0, [.ref 3, .ref 4, .ref 0, .ref 5, .long w, .ref 6, .ref 7, .ref 8, .long (b).toInt64]) : ACell), (.inr (.long, [.long 0, .long 0, .long 0, .long 0, .long 0, .long 0, .long 0, .long 0, .long 0, .long 0, .long 0, .long 0, .long 0, .long 0, .long 0, .long 0]) : ACell), (.inr (.int, [.int 0, .int 0, .int 0, .int 0, .int 0, .int 0, .int 0, .int 0, .int 0, .int 0, .int 0, .int 0, .int 0, .int 0, .int 0, .int 0]) : ACell), (.inr (.int, [.int 1, .int 2]) : ACell), (.inr (.int, [.int 0, .int 1]) : ACell), (.inr (.long, [.long (c).toInt64, .long (a).toInt64, .long (b).toInt64]) : ACell), (.inr (.long, [.long 0, .long 0]) : ACell)] (Is (some (.int 0)) [(.inr (.int, [.int 0, .int 1]) : ACell), (.inr (.int, [.int 1, .int 1]) : ACell), (.inl (0, [.ref 3, .ref 4, .ref 0, .ref 5, .long w, .ref 6, .ref 7, .ref 8, .long (b).toInt64]) : ACell), (.inr (.long, [.long 0, .long 0, .long 0, .long 0, .long 0, .long 0, .long 0, .long 0, .long 0, .long 0, .long 0, .long 0, .long 0, .long 0, .long 0, .long 0]) : ACell), (.inr (.int, [.int 0, .int 0, .int 0, .int 0, .int 0, .int 0, .int 0, .int 0, .int 0, .int 0, .int 0, .int 0, .int 0, .int 0, .int 0, .int 0]) : ACell), (.inr (.int, [.int 1, .int 2]) : ACell), (.inr (.int, [.int 0, .int 1]) : ACell), (.inr (.long, [.long 9223372036854775807, .long (a).toInt64, .long (b).toInt64]) : ACell), (.inr (.long, [.long 0, .long 0]) : ACell)]) := by
  refine e7 ?_
  refine s7_0 ?_
  refine s7_1 rfl ?_
  refine s7_2 ?_
  refine s7_3 rfl ?_
  refine s7_6 ?_
  refine s7_7 0 rfl (by decide) rfl ?_
  refine s7_8 rfl ?_
  refine s7_10 ?_
  refine s7_12 ?_
  refine s7_13 rfl ?_
  refine s7_16 ?_
  refine s7_17 0 rfl (by decide) rfl ?_
  refine s7_18 ?_
  refine s7_19 rfl ?_
  refine s7_22 ?_
  refine s7_23 0 rfl (by decide) rfl ?_
  refine s7_24 ?_
  refine s7_25 (fun h => absurd h (by decide)) (fun _ => ?_)
  refine s7_28 ?_
  refine s7_29 rfl ?_
  refine s7_32 ?_
  refine s7_34 0 rfl (by decide) rfl ?_
  refine s7_35 ?_
  refine s7_38c (fun h => absurd h (own_ne _)) (fun _ => ?_)
  refine s7_42 ?_
  refine s7_43 rfl ?_
  refine s7_46 ?_
  refine s7_48 0 rfl (by decide) rfl ?_
  refine s7_49 ?_
  refine s7_50 ?_
  refine s7_51 ?_
  refine s7_52 ?_
  refine s7_53 rfl ?_
  refine s7_56c (fun h => absurd hc h) (fun _ => ?_)
  refine s7_60 ?_
  refine s7_61 rfl ?_
  refine s7_64 ?_
  refine s7_66 ?_
  refine s7_69 0 rfl (by decide) rfl ?_
  refine s7_70 ?_
  refine s7_71 ?_
  refine s7_72 rfl ?_
  refine s7_75 ?_
  refine s7_77 0 rfl (by decide) rfl ?_
  refine s7_78 ?_
  refine s7_81c (fun _ => ?_) (fun h => absurd h (by decide))
  refine s7_89 ?_
  refine s7_90 ?_
  refine s7_91 rfl ?_
  refine s7_92 ?_
  refine s7_95 ?_
  refine s7_10 ?_
  refine s7_12 ?_
  refine s7_13 rfl ?_
  refine s7_16 ?_
  refine s7_17 0 rfl (by decide) rfl ?_
  refine s7_18 ?_
  refine s7_19 rfl ?_
  refine s7_22 ?_
  refine s7_23 0 rfl (by decide) rfl ?_
  refine s7_24 ?_
  refine s7_25 (fun _ => ?_) (fun h => absurd h (by decide))
  refine s7_98 ?_
  exact s7_99 ⟨rfl, rfl⟩
theorem own_r171 (a b c pd : Int32) (w : Int64) (ha : w < a.toInt64 - pd.toInt64) (hb : w < b.toInt64 - pd.toInt64) : M7 ⟨0, 0, 0, 0⟩ [.ref 2, .int 0, .int pd] [(.inr (.int, [.int 0, .int 1]) : ACell), (.inr (.int, [.int 1, .int 1]) : ACell), (.inl (0, [.ref 3, .ref 4, .ref 0, .ref 5, .long w, .ref 6, .ref 7, .ref 8, .long (b).toInt64]) : ACell), (.inr (.long, [.long 0, .long 0, .long 0, .long 0, .long 0, .long 0, .long 0, .long 0, .long 0, .long 0, .long 0, .long 0, .long 0, .long 0, .long 0, .long 0]) : ACell), (.inr (.int, [.int 0, .int 0, .int 0, .int 0, .int 0, .int 0, .int 0, .int 0, .int 0, .int 0, .int 0, .int 0, .int 0, .int 0, .int 0, .int 0]) : ACell), (.inr (.int, [.int 1, .int 2]) : ACell), (.inr (.int, [.int 0, .int 1]) : ACell), (.inr (.long, [.long 9223372036854775807, .long (a).toInt64, .long (b).toInt64]) : ACell), (.inr (.long, [.long 0, .long 0]) : ACell)] (Is (some (.int 0)) [(.inr (.int, [.int 0, .int 1]) : ACell), (.inr (.int, [.int 1, .int 1]) : ACell), (.inl (0, [.ref 3, .ref 4, .ref 0, .ref 5, .long w, .ref 6, .ref 7, .ref 8, .long (b).toInt64]) : ACell), (.inr (.long, [.long 0, .long 0, .long 0, .long 0, .long 0, .long 0, .long 0, .long 0, .long 0, .long 0, .long 0, .long 0, .long 0, .long 0, .long 0, .long 0]) : ACell), (.inr (.int, [.int 0, .int 0, .int 0, .int 0, .int 0, .int 0, .int 0, .int 0, .int 0, .int 0, .int 0, .int 0, .int 0, .int 0, .int 0, .int 0]) : ACell), (.inr (.int, [.int 1, .int 2]) : ACell), (.inr (.int, [.int 0, .int 1]) : ACell), (.inr (.long, [.long 9223372036854775807, .long (a).toInt64, .long (b).toInt64]) : ACell), (.inr (.long, [.long 0, .long 0]) : ACell)]) := by
  refine e7 ?_
  refine s7_0 ?_
  refine s7_1 rfl ?_
  refine s7_2 ?_
  refine s7_3 rfl ?_
  refine s7_6 ?_
  refine s7_7 0 rfl (by decide) rfl ?_
  refine s7_8 rfl ?_
  refine s7_10 ?_
  refine s7_12 ?_
  refine s7_13 rfl ?_
  refine s7_16 ?_
  refine s7_17 0 rfl (by decide) rfl ?_
  refine s7_18 ?_
  refine s7_19 rfl ?_
  refine s7_22 ?_
  refine s7_23 0 rfl (by decide) rfl ?_
  refine s7_24 ?_
  refine s7_25 (fun h => absurd h (by decide)) (fun _ => ?_)
  refine s7_28 ?_
  refine s7_29 rfl ?_
  refine s7_32 ?_
  refine s7_34 0 rfl (by decide) rfl ?_
  refine s7_35 ?_
  refine s7_38c (fun _ => ?_) (fun h => absurd h (by decide))
  refine s7_70 ?_
  refine s7_71 ?_
  refine s7_72 rfl ?_
  refine s7_75 ?_
  refine s7_77 0 rfl (by decide) rfl ?_
  refine s7_78 ?_
  refine s7_81c (fun _ => ?_) (fun h => absurd h (by decide))
  refine s7_89 ?_
  refine s7_90 ?_
  refine s7_91 rfl ?_
  refine s7_92 ?_
  refine s7_95 ?_
  refine s7_10 ?_
  refine s7_12 ?_
  refine s7_13 rfl ?_
  refine s7_16 ?_
  refine s7_17 0 rfl (by decide) rfl ?_
  refine s7_18 ?_
  refine s7_19 rfl ?_
  refine s7_22 ?_
  refine s7_23 0 rfl (by decide) rfl ?_
  refine s7_24 ?_
  refine s7_25 (fun _ => ?_) (fun h => absurd h (by decide))
  refine s7_98 ?_
  exact s7_99 ⟨rfl, rfl⟩
theorem own_r173 (a b c pd : Int32) (w : Int64) (ha : w < a.toInt64 - pd.toInt64) (hb : w < b.toInt64 - pd.toInt64) (hc : ¬ w < c.toInt64 - pd.toInt64) : M7 ⟨0, 0, 0, 0⟩ [.ref 2, .int 0, .int pd] [(.inr (.int, [.int 0, .int 1]) : ACell), (.inr (.int, [.int 1, .int 1]) : ACell), (.inl (0, [.ref 3, .ref 4, .ref 0, .ref 5, .long w, .ref 6, .ref 7, .ref 8, .long (b).toInt64]) : ACell), (.inr (.long, [.long 0, .long 0, .long 0, .long 0, .long 0, .long 0, .long 0, .long 0, .long 0, .long 0, .long 0, .long 0, .long 0, .long 0, .long 0, .long 0]) : ACell), (.inr (.int, [.int 0, .int 0, .int 0, .int 0, .int 0, .int 0, .int 0, .int 0, .int 0, .int 0, .int 0, .int 0, .int 0, .int 0, .int 0, .int 0]) : ACell), (.inr (.int, [.int 1, .int 2]) : ACell), (.inr (.int, [.int 0, .int 1]) : ACell), (.inr (.long, [.long (c).toInt64, .long (a).toInt64, .long (b).toInt64]) : ACell), (.inr (.long, [.long 0, .long 0]) : ACell)] (Is (some (.int 1)) [(.inr (.int, [.int 0, .int 1]) : ACell), (.inr (.int, [.int 1, .int 1]) : ACell), (.inl (0, [.ref 3, .ref 4, .ref 0, .ref 5, .long w, .ref 6, .ref 7, .ref 8, .long (b).toInt64]) : ACell), (.inr (.long, [.long 0, .long 0, .long 0, .long 0, .long 0, .long 0, .long 0, .long 0, .long 0, .long 0, .long 0, .long 0, .long 0, .long 0, .long 0, .long 0]) : ACell), (.inr (.int, [.int 0, .int 0, .int 0, .int 0, .int 0, .int 0, .int 0, .int 0, .int 0, .int 0, .int 0, .int 0, .int 0, .int 0, .int 0, .int 0]) : ACell), (.inr (.int, [.int 1, .int 2]) : ACell), (.inr (.int, [.int 0, .int 1]) : ACell), (.inr (.long, [.long (c).toInt64, .long (a).toInt64, .long (b).toInt64]) : ACell), (.inr (.long, [.long 0, .long 0]) : ACell)]) := by
  refine e7 ?_
  refine s7_0 ?_
  refine s7_1 rfl ?_
  refine s7_2 ?_
  refine s7_3 rfl ?_
  refine s7_6 ?_
  refine s7_7 0 rfl (by decide) rfl ?_
  refine s7_8 rfl ?_
  refine s7_10 ?_
  refine s7_12 ?_
  refine s7_13 rfl ?_
  refine s7_16 ?_
  refine s7_17 0 rfl (by decide) rfl ?_
  refine s7_18 ?_
  refine s7_19 rfl ?_
  refine s7_22 ?_
  refine s7_23 0 rfl (by decide) rfl ?_
  refine s7_24 ?_
  refine s7_25 (fun h => absurd h (by decide)) (fun _ => ?_)
  refine s7_28 ?_
  refine s7_29 rfl ?_
  refine s7_32 ?_
  refine s7_34 0 rfl (by decide) rfl ?_
  refine s7_35 ?_
  refine s7_38c (fun h => absurd h (own_ne _)) (fun _ => ?_)
  refine s7_42 ?_
  refine s7_43 rfl ?_
  refine s7_46 ?_
  refine s7_48 0 rfl (by decide) rfl ?_
  refine s7_49 ?_
  refine s7_50 ?_
  refine s7_51 ?_
  refine s7_52 ?_
  refine s7_53 rfl ?_
  refine s7_56c (fun _ => ?_) (fun h => absurd h hc)
  refine s7_70 ?_
  refine s7_71 ?_
  refine s7_72 rfl ?_
  refine s7_75 ?_
  refine s7_77 0 rfl (by decide) rfl ?_
  refine s7_78 ?_
  refine s7_81c (fun h => absurd h (own_ne _)) (fun _ => ?_)
  refine s7_85 ?_
  refine s7_86 ?_
  refine s7_90 ?_
  refine s7_91 rfl ?_
  refine s7_92 ?_
  refine s7_95 ?_
  refine s7_10 ?_
  refine s7_12 ?_
  refine s7_13 rfl ?_
  refine s7_16 ?_
  refine s7_17 0 rfl (by decide) rfl ?_
  refine s7_18 ?_
  refine s7_19 rfl ?_
  refine s7_22 ?_
  refine s7_23 0 rfl (by decide) rfl ?_
  refine s7_24 ?_
  refine s7_25 (fun _ => ?_) (fun h => absurd h (by decide))
  refine s7_98 ?_
  exact s7_99 ⟨rfl, rfl⟩
theorem own_r175 (a b c pd : Int32) (w : Int64) (ha : w < a.toInt64 - pd.toInt64) (hb : w < b.toInt64 - pd.toInt64) (hc : w < c.toInt64 - pd.toInt64) : M7 ⟨0, 0, 0, 0⟩ [.ref 2, .int 0, .int pd] [(.inr (.int, [.int 0, .int 1]) : ACell), (.inr (.int, [.int 1, .int 1]) : ACell), (.inl (0, [.ref 3, .ref 4, .ref 0, .ref 5, .long w, .ref 6, .ref 7, .ref 8, .long (b).toInt64]) : ACell), (.inr (.long, [.long 0, .long 0, .long 0, .long 0, .long 0, .long 0, .long 0, .long 0, .long 0, .long 0, .long 0, .long 0, .long 0, .long 0, .long 0, .long 0]) : ACell), (.inr (.int, [.int 0, .int 0, .int 0, .int 0, .int 0, .int 0, .int 0, .int 0, .int 0, .int 0, .int 0, .int 0, .int 0, .int 0, .int 0, .int 0]) : ACell), (.inr (.int, [.int 1, .int 2]) : ACell), (.inr (.int, [.int 0, .int 1]) : ACell), (.inr (.long, [.long (c).toInt64, .long (a).toInt64, .long (b).toInt64]) : ACell), (.inr (.long, [.long 0, .long 0]) : ACell)] (Is (some (.int 0)) [(.inr (.int, [.int 0, .int 1]) : ACell), (.inr (.int, [.int 1, .int 1]) : ACell), (.inl (0, [.ref 3, .ref 4, .ref 0, .ref 5, .long w, .ref 6, .ref 7, .ref 8, .long (b).toInt64]) : ACell), (.inr (.long, [.long 0, .long 0, .long 0, .long 0, .long 0, .long 0, .long 0, .long 0, .long 0, .long 0, .long 0, .long 0, .long 0, .long 0, .long 0, .long 0]) : ACell), (.inr (.int, [.int 0, .int 0, .int 0, .int 0, .int 0, .int 0, .int 0, .int 0, .int 0, .int 0, .int 0, .int 0, .int 0, .int 0, .int 0, .int 0]) : ACell), (.inr (.int, [.int 1, .int 2]) : ACell), (.inr (.int, [.int 0, .int 1]) : ACell), (.inr (.long, [.long 9223372036854775807, .long (a).toInt64, .long (b).toInt64]) : ACell), (.inr (.long, [.long 0, .long 0]) : ACell)]) := by
  refine e7 ?_
  refine s7_0 ?_
  refine s7_1 rfl ?_
  refine s7_2 ?_
  refine s7_3 rfl ?_
  refine s7_6 ?_
  refine s7_7 0 rfl (by decide) rfl ?_
  refine s7_8 rfl ?_
  refine s7_10 ?_
  refine s7_12 ?_
  refine s7_13 rfl ?_
  refine s7_16 ?_
  refine s7_17 0 rfl (by decide) rfl ?_
  refine s7_18 ?_
  refine s7_19 rfl ?_
  refine s7_22 ?_
  refine s7_23 0 rfl (by decide) rfl ?_
  refine s7_24 ?_
  refine s7_25 (fun h => absurd h (by decide)) (fun _ => ?_)
  refine s7_28 ?_
  refine s7_29 rfl ?_
  refine s7_32 ?_
  refine s7_34 0 rfl (by decide) rfl ?_
  refine s7_35 ?_
  refine s7_38c (fun h => absurd h (own_ne _)) (fun _ => ?_)
  refine s7_42 ?_
  refine s7_43 rfl ?_
  refine s7_46 ?_
  refine s7_48 0 rfl (by decide) rfl ?_
  refine s7_49 ?_
  refine s7_50 ?_
  refine s7_51 ?_
  refine s7_52 ?_
  refine s7_53 rfl ?_
  refine s7_56c (fun h => absurd hc h) (fun _ => ?_)
  refine s7_60 ?_
  refine s7_61 rfl ?_
  refine s7_64 ?_
  refine s7_66 ?_
  refine s7_69 0 rfl (by decide) rfl ?_
  refine s7_70 ?_
  refine s7_71 ?_
  refine s7_72 rfl ?_
  refine s7_75 ?_
  refine s7_77 0 rfl (by decide) rfl ?_
  refine s7_78 ?_
  refine s7_81c (fun _ => ?_) (fun h => absurd h (by decide))
  refine s7_89 ?_
  refine s7_90 ?_
  refine s7_91 rfl ?_
  refine s7_92 ?_
  refine s7_95 ?_
  refine s7_10 ?_
  refine s7_12 ?_
  refine s7_13 rfl ?_
  refine s7_16 ?_
  refine s7_17 0 rfl (by decide) rfl ?_
  refine s7_18 ?_
  refine s7_19 rfl ?_
  refine s7_22 ?_
  refine s7_23 0 rfl (by decide) rfl ?_
  refine s7_24 ?_
  refine s7_25 (fun _ => ?_) (fun h => absurd h (by decide))
  refine s7_98 ?_
  exact s7_99 ⟨rfl, rfl⟩
set_option maxHeartbeats 4000000 in
theorem own_c0000 (a b c pd : Int32) (w : Int64) (flags : Int32) : W0 room_1 57 [.val (.int a), .val (.int b), .val (.int c), .val (.int pd), .val (.long w), .second, .val (.int flags), .val (.int 0), .val (.int 0), .val (.int 0), .val (.int 0), .unset, .unset, .unset, .unset, .unset, .unset, .unset, .unset, .unset, .unset, .unset, .unset, .unset, .unset, .unset] [] [] (fun r _ => r = some (.int 1)) := by
  refine s0_57 ?_
  refine s0_58 0 2 (by decide) rfl rfl ?_
  refine s0_60 rfl ?_
  refine s0_61 ?_
  refine s0_62 ?_
  refine s0_63 0 rfl (by decide) rfl ?_
  refine s0_64 rfl ?_
  refine s0_65 ?_
  refine s0_66 ?_
  refine s0_67 1 rfl (by decide) rfl ?_
  refine s0_68 rfl ?_
  refine s0_70 ?_
  refine s0_71 1 2 (by decide) rfl rfl ?_
  refine s0_73 rfl ?_
  refine s0_74 ?_
  refine s0_75 ?_
  refine s0_76 0 rfl (by decide) rfl ?_
  refine s0_77 rfl ?_
  refine s0_78 ?_
  refine s0_79 ?_
  refine s0_80 1 rfl (by decide) rfl ?_
  refine s0_81 rfl ?_
  refine s0_83 2 rfl rfl ?_
  refine s0_86 rfl ?_
  refine s0_87 ?_
  refine s0_89 ?_
  refine s0_91 ?_
  refine s0_93 (own_r2 a b c pd w) rfl ?_
  refine s0_96 rfl ?_
  refine s0_98 ?_
  refine s0_100 (fun _ => ?_) (fun h => absurd h (by decide))
  refine s0_117 ?_
  refine s0_119 (fun _ => ?_) (fun h => absurd h (by decide))
  refine s0_136 ?_
  refine s0_138 (fun _ => ?_) (fun h => absurd h (by decide))
  refine s0_155 ?_
  refine s0_157 (fun _ => ?_) (fun h => absurd h (by decide))
  refine s0_164 ?_
  refine s0_165 rfl ?_
  refine s0_167 ?_
  refine s0_169 ?_
  refine s0_171 ?_
  refine s0_172 rfl (own_r3 a b c pd w) rfl ?_
  refine s0_175 rfl ?_
  refine s0_177 ?_
  refine s0_179 (fun _ => ?_) (fun h => absurd h (by decide))
  refine s0_196 ?_
  refine s0_197 rfl ?_
  refine s0_199 ?_
  refine s0_201 (fun _ => ?_) (fun h => absurd h (by decide))
  refine s0_218 ?_
  refine s0_219 rfl ?_
  refine s0_221 ?_
  refine s0_223 (fun _ => ?_) (fun h => absurd h (by decide))
  refine s0_240 ?_
  refine s0_241 rfl ?_
  refine s0_243 ?_
  refine s0_245 (fun _ => ?_) (fun h => absurd h (by decide))
  refine s0_264 ?_
  refine s0_266 (fun _ => ?_) (fun h => absurd h (by decide))
  refine s0_274 ?_
  refine s0_277 rfl ?_
  refine s0_279 ?_
  refine s0_281 (fun h => absurd h (by decide)) (fun _ => ?_)
  refine s0_284 ?_
  refine s0_286 (fun _ => ?_) (fun h => absurd h (by decide))
  refine s0_294 ?_
  refine s0_297 ?_
  refine s0_313 rfl ?_
  refine s0_315 ?_
  refine s0_317 (fun h => absurd h (by decide)) (fun _ => ?_)
  refine s0_320 ?_
  refine s0_322 (fun _ => ?_) (fun h => absurd h (by decide))
  refine s0_330 ?_
  refine s0_333 ?_
  refine s0_349 rfl ?_
  refine s0_351 ?_
  refine s0_353 (fun _ => ?_) (fun h => absurd h (by decide))
  refine s0_361 ?_
  refine s0_363 (fun h => absurd h (by decide)) (fun _ => ?_)
  refine s0_366 ?_
  refine s0_368 (fun _ => ?_) (fun h => absurd h (by decide))
  refine s0_375 ?_
  refine s0_376 rfl ?_
  refine s0_378 ?_
  refine s0_380 ?_
  refine s0_382 (fun h => absurd h (by decide)) (fun _ => ?_)
  refine s0_385 ?_
  refine s0_387 ?_
  refine s0_388 ?_
  refine s0_389 rfl (own_r5 a b c pd w) rfl ?_
  refine s0_392 ?_
  refine s0_394c (fun h => absurd h (by decide)) (fun _ => ?_)
  refine s0_398 ?_
  refine s0_400 ?_
  refine s0_401 ?_
  refine s0_402 rfl (own_r6 a b c pd w) rfl ?_
  refine s0_405 ?_
  refine s0_407c (fun h => absurd h (by decide)) (fun _ => ?_)
  refine s0_411 ?_
  refine s0_413 ?_
  refine s0_414 ?_
  refine s0_415 rfl (own_r7 a b c pd w) rfl ?_
  refine s0_418 ?_
  refine s0_420c (fun h => absurd h (by decide)) (fun _ => ?_)
  refine s0_424 ?_
  refine s0_425 ?_
  exact s0_429 rfl
set_option maxHeartbeats 4000000 in
theorem own_c000k (a b c pd : Int32) (w : Int64) (flags : Int32) (hc : ¬ w < c.toInt64 - pd.toInt64) : W0 room_1 57 [.val (.int a), .val (.int b), .val (.int c), .val (.int pd), .val (.long w), .second, .val (.int flags), .val (.int 0), .val (.int 0), .val (.int 1), .val (.int 0), .unset, .unset, .unset, .unset, .unset, .unset, .unset, .unset, .unset, .unset, .unset, .unset, .unset, .unset, .unset] [] [] (fun r _ => r = some (.int 1)) := by
  refine s0_57 ?_
  refine s0_58 0 2 (by decide) rfl rfl ?_
  refine s0_60 rfl ?_
  refine s0_61 ?_
  refine s0_62 ?_
  refine s0_63 0 rfl (by decide) rfl ?_
  refine s0_64 rfl ?_
  refine s0_65 ?_
  refine s0_66 ?_
  refine s0_67 1 rfl (by decide) rfl ?_
  refine s0_68 rfl ?_
  refine s0_70 ?_
  refine s0_71 1 2 (by decide) rfl rfl ?_
  refine s0_73 rfl ?_
  refine s0_74 ?_
  refine s0_75 ?_
  refine s0_76 0 rfl (by decide) rfl ?_
  refine s0_77 rfl ?_
  refine s0_78 ?_
  refine s0_79 ?_
  refine s0_80 1 rfl (by decide) rfl ?_
  refine s0_81 rfl ?_
  refine s0_83 2 rfl rfl ?_
  refine s0_86 rfl ?_
  refine s0_87 ?_
  refine s0_89 ?_
  refine s0_91 ?_
  refine s0_93 (own_r2 a b c pd w) rfl ?_
  refine s0_96 rfl ?_
  refine s0_98 ?_
  refine s0_100 (fun h => absurd h (by decide)) (fun _ => ?_)
  refine s0_103 ?_
  refine s0_105 ?_
  refine s0_106 rfl (own_r8 a b c pd w) rfl ?_
  refine s0_109 ?_
  refine s0_111 ?_
  refine s0_112 ?_
  refine s0_113 ?_
  refine s0_114 rfl (own_r10 a b c pd w) rfl ?_
  refine s0_117 ?_
  refine s0_119 (fun _ => ?_) (fun h => absurd h (by decide))
  refine s0_136 ?_
  refine s0_138 (fun _ => ?_) (fun h => absurd h (by decide))
  refine s0_155 ?_
  refine s0_157 (fun _ => ?_) (fun h => absurd h (by decide))
  refine s0_164 ?_
  refine s0_165 rfl ?_
  refine s0_167 ?_
  refine s0_169 ?_
  refine s0_171 ?_
  refine s0_172 rfl (own_r11 a b c pd w hc) rfl ?_
  refine s0_175 rfl ?_
  refine s0_177 ?_
  refine s0_179 (fun h => absurd h (by decide)) (fun _ => ?_)
  refine s0_182 ?_
  refine s0_183 ?_
  refine s0_184 ?_
  refine s0_186 (own_fit1 _ _ _ _ hc) rfl ?_
  refine s0_189 (fun h => absurd h (by decide)) (fun _ => ?_)
  refine s0_192 ?_
  refine s0_193 ?_
  refine s0_197 rfl ?_
  refine s0_199 ?_
  refine s0_201 (fun _ => ?_) (fun h => absurd h (by decide))
  refine s0_218 ?_
  refine s0_219 rfl ?_
  refine s0_221 ?_
  refine s0_223 (fun _ => ?_) (fun h => absurd h (by decide))
  refine s0_240 ?_
  refine s0_241 rfl ?_
  refine s0_243 ?_
  refine s0_245 (fun _ => ?_) (fun h => absurd h (by decide))
  refine s0_264 ?_
  refine s0_266 (fun h => absurd h (by decide)) (fun _ => ?_)
  refine s0_269 ?_
  refine s0_270 ?_
  refine s0_271 ?_
  refine s0_277 rfl ?_
  refine s0_279 ?_
  refine s0_281 (fun h => absurd h (by decide)) (fun _ => ?_)
  refine s0_284 ?_
  refine s0_286 (fun _ => ?_) (fun h => absurd h (by decide))
  refine s0_294 ?_
  refine s0_297 ?_
  refine s0_313 rfl ?_
  refine s0_315 ?_
  refine s0_317 (fun h => absurd h (by decide)) (fun _ => ?_)
  refine s0_320 ?_
  refine s0_322 (fun _ => ?_) (fun h => absurd h (by decide))
  refine s0_330 ?_
  refine s0_333 ?_
  refine s0_349 rfl ?_
  refine s0_351 ?_
  refine s0_353 (fun _ => ?_) (fun h => absurd h (by decide))
  refine s0_361 ?_
  refine s0_363 (fun h => absurd h (by decide)) (fun _ => ?_)
  refine s0_366 ?_
  refine s0_368 (fun _ => ?_) (fun h => absurd h (by decide))
  refine s0_375 ?_
  refine s0_376 rfl ?_
  refine s0_378 ?_
  refine s0_380 ?_
  refine s0_382 (fun h => absurd h (by decide)) (fun _ => ?_)
  refine s0_385 ?_
  refine s0_387 ?_
  refine s0_388 ?_
  refine s0_389 rfl (own_r13 a b c pd w) rfl ?_
  refine s0_392 ?_
  refine s0_394c (fun h => absurd rfl h) (fun _ => ?_)
  refine s0_398 ?_
  refine s0_400 ?_
  refine s0_401 ?_
  refine s0_402 rfl (own_r14 a b c pd w) rfl ?_
  refine s0_405 ?_
  refine s0_407c (fun h => absurd h (by decide)) (fun _ => ?_)
  refine s0_411 ?_
  refine s0_413 ?_
  refine s0_414 ?_
  refine s0_415 rfl (own_r15 a b c pd w) rfl ?_
  refine s0_418 ?_
  refine s0_420c (fun h => absurd h (by decide)) (fun _ => ?_)
  refine s0_424 ?_
  refine s0_425 ?_
  exact s0_429 rfl
set_option maxHeartbeats 4000000 in
theorem own_c000d (a b c pd : Int32) (w : Int64) (flags : Int32) (hc : w < c.toInt64 - pd.toInt64) : W0 room_1 57 [.val (.int a), .val (.int b), .val (.int c), .val (.int pd), .val (.long w), .second, .val (.int flags), .val (.int 0), .val (.int 0), .val (.int 1), .val (.int 0), .unset, .unset, .unset, .unset, .unset, .unset, .unset, .unset, .unset, .unset, .unset, .unset, .unset, .unset, .unset] [] [] (fun r _ => r = some (.int 1)) := by
  refine s0_57 ?_
  refine s0_58 0 2 (by decide) rfl rfl ?_
  refine s0_60 rfl ?_
  refine s0_61 ?_
  refine s0_62 ?_
  refine s0_63 0 rfl (by decide) rfl ?_
  refine s0_64 rfl ?_
  refine s0_65 ?_
  refine s0_66 ?_
  refine s0_67 1 rfl (by decide) rfl ?_
  refine s0_68 rfl ?_
  refine s0_70 ?_
  refine s0_71 1 2 (by decide) rfl rfl ?_
  refine s0_73 rfl ?_
  refine s0_74 ?_
  refine s0_75 ?_
  refine s0_76 0 rfl (by decide) rfl ?_
  refine s0_77 rfl ?_
  refine s0_78 ?_
  refine s0_79 ?_
  refine s0_80 1 rfl (by decide) rfl ?_
  refine s0_81 rfl ?_
  refine s0_83 2 rfl rfl ?_
  refine s0_86 rfl ?_
  refine s0_87 ?_
  refine s0_89 ?_
  refine s0_91 ?_
  refine s0_93 (own_r2 a b c pd w) rfl ?_
  refine s0_96 rfl ?_
  refine s0_98 ?_
  refine s0_100 (fun h => absurd h (by decide)) (fun _ => ?_)
  refine s0_103 ?_
  refine s0_105 ?_
  refine s0_106 rfl (own_r8 a b c pd w) rfl ?_
  refine s0_109 ?_
  refine s0_111 ?_
  refine s0_112 ?_
  refine s0_113 ?_
  refine s0_114 rfl (own_r10 a b c pd w) rfl ?_
  refine s0_117 ?_
  refine s0_119 (fun _ => ?_) (fun h => absurd h (by decide))
  refine s0_136 ?_
  refine s0_138 (fun _ => ?_) (fun h => absurd h (by decide))
  refine s0_155 ?_
  refine s0_157 (fun _ => ?_) (fun h => absurd h (by decide))
  refine s0_164 ?_
  refine s0_165 rfl ?_
  refine s0_167 ?_
  refine s0_169 ?_
  refine s0_171 ?_
  refine s0_172 rfl (own_r16 a b c pd w hc) rfl ?_
  refine s0_175 rfl ?_
  refine s0_177 ?_
  refine s0_179 (fun h => absurd h (by decide)) (fun _ => ?_)
  refine s0_182 ?_
  refine s0_183 ?_
  refine s0_184 ?_
  refine s0_186 (own_fit0 _ _ _ _ hc) rfl ?_
  refine s0_189 (fun _ => ?_) (fun h => absurd h (by decide))
  refine s0_196 ?_
  refine s0_197 rfl ?_
  refine s0_199 ?_
  refine s0_201 (fun _ => ?_) (fun h => absurd h (by decide))
  refine s0_218 ?_
  refine s0_219 rfl ?_
  refine s0_221 ?_
  refine s0_223 (fun _ => ?_) (fun h => absurd h (by decide))
  refine s0_240 ?_
  refine s0_241 rfl ?_
  refine s0_243 ?_
  refine s0_245 (fun _ => ?_) (fun h => absurd h (by decide))
  refine s0_264 ?_
  refine s0_266 (fun h => absurd h (by decide)) (fun _ => ?_)
  refine s0_269 ?_
  refine s0_270 ?_
  refine s0_271 ?_
  refine s0_277 rfl ?_
  refine s0_279 ?_
  refine s0_281 (fun h => absurd h (by decide)) (fun _ => ?_)
  refine s0_284 ?_
  refine s0_286 (fun _ => ?_) (fun h => absurd h (by decide))
  refine s0_294 ?_
  refine s0_297 ?_
  refine s0_313 rfl ?_
  refine s0_315 ?_
  refine s0_317 (fun h => absurd h (by decide)) (fun _ => ?_)
  refine s0_320 ?_
  refine s0_322 (fun _ => ?_) (fun h => absurd h (by decide))
  refine s0_330 ?_
  refine s0_333 ?_
  refine s0_349 rfl ?_
  refine s0_351 ?_
  refine s0_353 (fun _ => ?_) (fun h => absurd h (by decide))
  refine s0_361 ?_
  refine s0_363 (fun h => absurd h (by decide)) (fun _ => ?_)
  refine s0_366 ?_
  refine s0_368 (fun _ => ?_) (fun h => absurd h (by decide))
  refine s0_375 ?_
  refine s0_376 rfl ?_
  refine s0_378 ?_
  refine s0_380 ?_
  refine s0_382 (fun h => absurd h (by decide)) (fun _ => ?_)
  refine s0_385 ?_
  refine s0_387 ?_
  refine s0_388 ?_
  refine s0_389 rfl (own_r13 a b c pd w) rfl ?_
  refine s0_392 ?_
  refine s0_394c (fun h => absurd rfl h) (fun _ => ?_)
  refine s0_398 ?_
  refine s0_400 ?_
  refine s0_401 ?_
  refine s0_402 rfl (own_r14 a b c pd w) rfl ?_
  refine s0_405 ?_
  refine s0_407c (fun h => absurd h (by decide)) (fun _ => ?_)
  refine s0_411 ?_
  refine s0_413 ?_
  refine s0_414 ?_
  refine s0_415 rfl (own_r15 a b c pd w) rfl ?_
  refine s0_418 ?_
  refine s0_420c (fun h => absurd h (by decide)) (fun _ => ?_)
  refine s0_424 ?_
  refine s0_425 ?_
  exact s0_429 rfl
set_option maxHeartbeats 4000000 in
theorem own_c00k0 (a b c pd : Int32) (w : Int64) (flags : Int32) (hb : ¬ w < b.toInt64 - pd.toInt64) : W0 room_1 57 [.val (.int a), .val (.int b), .val (.int c), .val (.int pd), .val (.long w), .second, .val (.int flags), .val (.int 0), .val (.int 1), .val (.int 0), .val (.int 0), .unset, .unset, .unset, .unset, .unset, .unset, .unset, .unset, .unset, .unset, .unset, .unset, .unset, .unset, .unset] [] [] (fun r _ => r = some (.int 1)) := by
  refine s0_57 ?_
  refine s0_58 0 2 (by decide) rfl rfl ?_
  refine s0_60 rfl ?_
  refine s0_61 ?_
  refine s0_62 ?_
  refine s0_63 0 rfl (by decide) rfl ?_
  refine s0_64 rfl ?_
  refine s0_65 ?_
  refine s0_66 ?_
  refine s0_67 1 rfl (by decide) rfl ?_
  refine s0_68 rfl ?_
  refine s0_70 ?_
  refine s0_71 1 2 (by decide) rfl rfl ?_
  refine s0_73 rfl ?_
  refine s0_74 ?_
  refine s0_75 ?_
  refine s0_76 0 rfl (by decide) rfl ?_
  refine s0_77 rfl ?_
  refine s0_78 ?_
  refine s0_79 ?_
  refine s0_80 1 rfl (by decide) rfl ?_
  refine s0_81 rfl ?_
  refine s0_83 2 rfl rfl ?_
  refine s0_86 rfl ?_
  refine s0_87 ?_
  refine s0_89 ?_
  refine s0_91 ?_
  refine s0_93 (own_r2 a b c pd w) rfl ?_
  refine s0_96 rfl ?_
  refine s0_98 ?_
  refine s0_100 (fun _ => ?_) (fun h => absurd h (by decide))
  refine s0_117 ?_
  refine s0_119 (fun _ => ?_) (fun h => absurd h (by decide))
  refine s0_136 ?_
  refine s0_138 (fun h => absurd h (by decide)) (fun _ => ?_)
  refine s0_141 ?_
  refine s0_143 ?_
  refine s0_144 rfl (own_r18 a b c pd w) rfl ?_
  refine s0_147 ?_
  refine s0_149 ?_
  refine s0_150 ?_
  refine s0_151 ?_
  refine s0_152 rfl (own_r20 a b c pd w) rfl ?_
  refine s0_155 ?_
  refine s0_157 (fun _ => ?_) (fun h => absurd h (by decide))
  refine s0_164 ?_
  refine s0_165 rfl ?_
  refine s0_167 ?_
  refine s0_169 ?_
  refine s0_171 ?_
  refine s0_172 rfl (own_r21 a b c pd w hb) rfl ?_
  refine s0_175 rfl ?_
  refine s0_177 ?_
  refine s0_179 (fun _ => ?_) (fun h => absurd h (by decide))
  refine s0_196 ?_
  refine s0_197 rfl ?_
  refine s0_199 ?_
  refine s0_201 (fun _ => ?_) (fun h => absurd h (by decide))
  refine s0_218 ?_
  refine s0_219 rfl ?_
  refine s0_221 ?_
  refine s0_223 (fun h => absurd h (by decide)) (fun _ => ?_)
  refine s0_226 ?_
  refine s0_227 ?_
  refine s0_228 ?_
  refine s0_230 (own_fit1 _ _ _ _ hb) rfl ?_
  refine s0_233 (fun h => absurd h (by decide)) (fun _ => ?_)
  refine s0_236 ?_
  refine s0_237 ?_
  refine s0_241 rfl ?_
  refine s0_243 ?_
  refine s0_245 (fun _ => ?_) (fun h => absurd h (by decide))
  refine s0_264 ?_
  refine s0_266 (fun _ => ?_) (fun h => absurd h (by decide))
  refine s0_274 ?_
  refine s0_277 rfl ?_
  refine s0_279 ?_
  refine s0_281 (fun h => absurd h (by decide)) (fun _ => ?_)
  refine s0_284 ?_
  refine s0_286 (fun _ => ?_) (fun h => absurd h (by decide))
  refine s0_294 ?_
  refine s0_297 ?_
  refine s0_313 rfl ?_
  refine s0_315 ?_
  refine s0_317 (fun h => absurd h (by decide)) (fun _ => ?_)
  refine s0_320 ?_
  refine s0_322 (fun h => absurd h (by decide)) (fun _ => ?_)
  refine s0_325 ?_
  refine s0_326 ?_
  refine s0_327 ?_
  refine s0_349 rfl ?_
  refine s0_351 ?_
  refine s0_353 (fun _ => ?_) (fun h => absurd h (by decide))
  refine s0_361 ?_
  refine s0_363 (fun h => absurd h (by decide)) (fun _ => ?_)
  refine s0_366 ?_
  refine s0_368 (fun h => absurd h (by decide)) (fun _ => ?_)
  refine s0_371 ?_
  refine s0_372 ?_
  refine s0_376 rfl ?_
  refine s0_378 ?_
  refine s0_380 ?_
  refine s0_382 (fun h => absurd h (by decide)) (fun _ => ?_)
  refine s0_385 ?_
  refine s0_387 ?_
  refine s0_388 ?_
  refine s0_389 rfl (own_r23 a b c pd w) rfl ?_
  refine s0_392 ?_
  refine s0_394c (fun h => absurd h (by decide)) (fun _ => ?_)
  refine s0_398 ?_
  refine s0_400 ?_
  refine s0_401 ?_
  refine s0_402 rfl (own_r24 a b c pd w) rfl ?_
  refine s0_405 ?_
  refine s0_407c (fun h => absurd h (by decide)) (fun _ => ?_)
  refine s0_411 ?_
  refine s0_413 ?_
  refine s0_414 ?_
  refine s0_415 rfl (own_r25 a b c pd w) rfl ?_
  refine s0_418 ?_
  refine s0_420c (fun h => absurd rfl h) (fun _ => ?_)
  refine s0_424 ?_
  refine s0_425 ?_
  exact s0_429 rfl
set_option maxHeartbeats 4000000 in
theorem own_c00kk (a b c pd : Int32) (w : Int64) (flags : Int32) (hb : ¬ w < b.toInt64 - pd.toInt64) (hc : ¬ w < c.toInt64 - pd.toInt64) : W0 room_1 57 [.val (.int a), .val (.int b), .val (.int c), .val (.int pd), .val (.long w), .second, .val (.int flags), .val (.int 0), .val (.int 1), .val (.int 1), .val (.int 0), .unset, .unset, .unset, .unset, .unset, .unset, .unset, .unset, .unset, .unset, .unset, .unset, .unset, .unset, .unset] [] [] (fun r _ => r = some (.int 1)) := by
  refine s0_57 ?_
  refine s0_58 0 2 (by decide) rfl rfl ?_
  refine s0_60 rfl ?_
  refine s0_61 ?_
  refine s0_62 ?_
  refine s0_63 0 rfl (by decide) rfl ?_
  refine s0_64 rfl ?_
  refine s0_65 ?_
  refine s0_66 ?_
  refine s0_67 1 rfl (by decide) rfl ?_
  refine s0_68 rfl ?_
  refine s0_70 ?_
  refine s0_71 1 2 (by decide) rfl rfl ?_
  refine s0_73 rfl ?_
  refine s0_74 ?_
  refine s0_75 ?_
  refine s0_76 0 rfl (by decide) rfl ?_
  refine s0_77 rfl ?_
  refine s0_78 ?_
  refine s0_79 ?_
  refine s0_80 1 rfl (by decide) rfl ?_
  refine s0_81 rfl ?_
  refine s0_83 2 rfl rfl ?_
  refine s0_86 rfl ?_
  refine s0_87 ?_
  refine s0_89 ?_
  refine s0_91 ?_
  refine s0_93 (own_r2 a b c pd w) rfl ?_
  refine s0_96 rfl ?_
  refine s0_98 ?_
  refine s0_100 (fun h => absurd h (by decide)) (fun _ => ?_)
  refine s0_103 ?_
  refine s0_105 ?_
  refine s0_106 rfl (own_r8 a b c pd w) rfl ?_
  refine s0_109 ?_
  refine s0_111 ?_
  refine s0_112 ?_
  refine s0_113 ?_
  refine s0_114 rfl (own_r10 a b c pd w) rfl ?_
  refine s0_117 ?_
  refine s0_119 (fun _ => ?_) (fun h => absurd h (by decide))
  refine s0_136 ?_
  refine s0_138 (fun h => absurd h (by decide)) (fun _ => ?_)
  refine s0_141 ?_
  refine s0_143 ?_
  refine s0_144 rfl (own_r26 a b c pd w) rfl ?_
  refine s0_147 ?_
  refine s0_149 ?_
  refine s0_150 ?_
  refine s0_151 ?_
  refine s0_152 rfl (own_r28 a b c pd w) rfl ?_
  refine s0_155 ?_
  refine s0_157 (fun _ => ?_) (fun h => absurd h (by decide))
  refine s0_164 ?_
  refine s0_165 rfl ?_
  refine s0_167 ?_
  refine s0_169 ?_
  refine s0_171 ?_
  refine s0_172 rfl (own_r29 a b c pd w hb hc) rfl ?_
  refine s0_175 rfl ?_
  refine s0_177 ?_
  refine s0_179 (fun h => absurd h (by decide)) (fun _ => ?_)
  refine s0_182 ?_
  refine s0_183 ?_
  refine s0_184 ?_
  refine s0_186 (own_fit1 _ _ _ _ hc) rfl ?_
  refine s0_189 (fun h => absurd h (by decide)) (fun _ => ?_)
  refine s0_192 ?_
  refine s0_193 ?_
  refine s0_197 rfl ?_
  refine s0_199 ?_
  refine s0_201 (fun _ => ?_) (fun h => absurd h (by decide))
  refine s0_218 ?_
  refine s0_219 rfl ?_
  refine s0_221 ?_
  refine s0_223 (fun h => absurd h (by decide)) (fun _ => ?_)
  refine s0_226 ?_
  refine s0_227 ?_
  refine s0_228 ?_
  refine s0_230 (own_fit1 _ _ _ _ hb) rfl ?_
  refine s0_233 (fun h => absurd h (by decide)) (fun _ => ?_)
  refine s0_236 ?_
  refine s0_237 ?_
  refine s0_241 rfl ?_
  refine s0_243 ?_
  refine s0_245 (fun _ => ?_) (fun h => absurd h (by decide))
  refine s0_264 ?_
  refine s0_266 (fun h => absurd h (by decide)) (fun _ => ?_)
  refine s0_269 ?_
  refine s0_270 ?_
  refine s0_271 ?_
  refine s0_277 rfl ?_
  refine s0_279 ?_
  refine s0_281 (fun h => absurd h (by decide)) (fun _ => ?_)
  refine s0_284 ?_
  refine s0_286 (fun _ => ?_) (fun h => absurd h (by decide))
  refine s0_294 ?_
  refine s0_297 ?_
  refine s0_313 rfl ?_
  refine s0_315 ?_
  refine s0_317 (fun h => absurd h (by decide)) (fun _ => ?_)
  refine s0_320 ?_
  refine s0_322 (fun h => absurd h (by decide)) (fun _ => ?_)
  refine s0_325 ?_
  refine s0_326 ?_
  refine s0_327 ?_
  refine s0_349 rfl ?_
  refine s0_351 ?_
  refine s0_353 (fun _ => ?_) (fun h => absurd h (by decide))
  refine s0_361 ?_
  refine s0_363 (fun h => absurd h (by decide)) (fun _ => ?_)
  refine s0_366 ?_
  refine s0_368 (fun h => absurd h (by decide)) (fun _ => ?_)
  refine s0_371 ?_
  refine s0_372 ?_
  refine s0_376 rfl ?_
  refine s0_378 ?_
  refine s0_380 ?_
  refine s0_382 (fun h => absurd h (by decide)) (fun _ => ?_)
  refine s0_385 ?_
  refine s0_387 ?_
  refine s0_388 ?_
  refine s0_389 rfl (own_r31 a b c pd w) rfl ?_
  refine s0_392 ?_
  refine s0_394c (fun h => absurd rfl h) (fun _ => ?_)
  refine s0_398 ?_
  refine s0_400 ?_
  refine s0_401 ?_
  refine s0_402 rfl (own_r32 a b c pd w) rfl ?_
  refine s0_405 ?_
  refine s0_407c (fun h => absurd h (by decide)) (fun _ => ?_)
  refine s0_411 ?_
  refine s0_413 ?_
  refine s0_414 ?_
  refine s0_415 rfl (own_r33 a b c pd w) rfl ?_
  refine s0_418 ?_
  refine s0_420c (fun h => absurd rfl h) (fun _ => ?_)
  refine s0_424 ?_
  refine s0_425 ?_
  exact s0_429 rfl
set_option maxHeartbeats 4000000 in
theorem own_c00kd (a b c pd : Int32) (w : Int64) (flags : Int32) (hb : ¬ w < b.toInt64 - pd.toInt64) (hc : w < c.toInt64 - pd.toInt64) : W0 room_1 57 [.val (.int a), .val (.int b), .val (.int c), .val (.int pd), .val (.long w), .second, .val (.int flags), .val (.int 0), .val (.int 1), .val (.int 1), .val (.int 0), .unset, .unset, .unset, .unset, .unset, .unset, .unset, .unset, .unset, .unset, .unset, .unset, .unset, .unset, .unset] [] [] (fun r _ => r = some (.int 1)) := by
  refine s0_57 ?_
  refine s0_58 0 2 (by decide) rfl rfl ?_
  refine s0_60 rfl ?_
  refine s0_61 ?_
  refine s0_62 ?_
  refine s0_63 0 rfl (by decide) rfl ?_
  refine s0_64 rfl ?_
  refine s0_65 ?_
  refine s0_66 ?_
  refine s0_67 1 rfl (by decide) rfl ?_
  refine s0_68 rfl ?_
  refine s0_70 ?_
  refine s0_71 1 2 (by decide) rfl rfl ?_
  refine s0_73 rfl ?_
  refine s0_74 ?_
  refine s0_75 ?_
  refine s0_76 0 rfl (by decide) rfl ?_
  refine s0_77 rfl ?_
  refine s0_78 ?_
  refine s0_79 ?_
  refine s0_80 1 rfl (by decide) rfl ?_
  refine s0_81 rfl ?_
  refine s0_83 2 rfl rfl ?_
  refine s0_86 rfl ?_
  refine s0_87 ?_
  refine s0_89 ?_
  refine s0_91 ?_
  refine s0_93 (own_r2 a b c pd w) rfl ?_
  refine s0_96 rfl ?_
  refine s0_98 ?_
  refine s0_100 (fun h => absurd h (by decide)) (fun _ => ?_)
  refine s0_103 ?_
  refine s0_105 ?_
  refine s0_106 rfl (own_r8 a b c pd w) rfl ?_
  refine s0_109 ?_
  refine s0_111 ?_
  refine s0_112 ?_
  refine s0_113 ?_
  refine s0_114 rfl (own_r10 a b c pd w) rfl ?_
  refine s0_117 ?_
  refine s0_119 (fun _ => ?_) (fun h => absurd h (by decide))
  refine s0_136 ?_
  refine s0_138 (fun h => absurd h (by decide)) (fun _ => ?_)
  refine s0_141 ?_
  refine s0_143 ?_
  refine s0_144 rfl (own_r26 a b c pd w) rfl ?_
  refine s0_147 ?_
  refine s0_149 ?_
  refine s0_150 ?_
  refine s0_151 ?_
  refine s0_152 rfl (own_r28 a b c pd w) rfl ?_
  refine s0_155 ?_
  refine s0_157 (fun _ => ?_) (fun h => absurd h (by decide))
  refine s0_164 ?_
  refine s0_165 rfl ?_
  refine s0_167 ?_
  refine s0_169 ?_
  refine s0_171 ?_
  refine s0_172 rfl (own_r34 a b c pd w hb hc) rfl ?_
  refine s0_175 rfl ?_
  refine s0_177 ?_
  refine s0_179 (fun h => absurd h (by decide)) (fun _ => ?_)
  refine s0_182 ?_
  refine s0_183 ?_
  refine s0_184 ?_
  refine s0_186 (own_fit0 _ _ _ _ hc) rfl ?_
  refine s0_189 (fun _ => ?_) (fun h => absurd h (by decide))
  refine s0_196 ?_
  refine s0_197 rfl ?_
  refine s0_199 ?_
  refine s0_201 (fun _ => ?_) (fun h => absurd h (by decide))
  refine s0_218 ?_
  refine s0_219 rfl ?_
  refine s0_221 ?_
  refine s0_223 (fun h => absurd h (by decide)) (fun _ => ?_)
  refine s0_226 ?_
  refine s0_227 ?_
  refine s0_228 ?_
  refine s0_230 (own_fit1 _ _ _ _ hb) rfl ?_
  refine s0_233 (fun h => absurd h (by decide)) (fun _ => ?_)
  refine s0_236 ?_
  refine s0_237 ?_
  refine s0_241 rfl ?_
  refine s0_243 ?_
  refine s0_245 (fun _ => ?_) (fun h => absurd h (by decide))
  refine s0_264 ?_
  refine s0_266 (fun h => absurd h (by decide)) (fun _ => ?_)
  refine s0_269 ?_
  refine s0_270 ?_
  refine s0_271 ?_
  refine s0_277 rfl ?_
  refine s0_279 ?_
  refine s0_281 (fun h => absurd h (by decide)) (fun _ => ?_)
  refine s0_284 ?_
  refine s0_286 (fun _ => ?_) (fun h => absurd h (by decide))
  refine s0_294 ?_
  refine s0_297 ?_
  refine s0_313 rfl ?_
  refine s0_315 ?_
  refine s0_317 (fun h => absurd h (by decide)) (fun _ => ?_)
  refine s0_320 ?_
  refine s0_322 (fun h => absurd h (by decide)) (fun _ => ?_)
  refine s0_325 ?_
  refine s0_326 ?_
  refine s0_327 ?_
  refine s0_349 rfl ?_
  refine s0_351 ?_
  refine s0_353 (fun _ => ?_) (fun h => absurd h (by decide))
  refine s0_361 ?_
  refine s0_363 (fun h => absurd h (by decide)) (fun _ => ?_)
  refine s0_366 ?_
  refine s0_368 (fun h => absurd h (by decide)) (fun _ => ?_)
  refine s0_371 ?_
  refine s0_372 ?_
  refine s0_376 rfl ?_
  refine s0_378 ?_
  refine s0_380 ?_
  refine s0_382 (fun h => absurd h (by decide)) (fun _ => ?_)
  refine s0_385 ?_
  refine s0_387 ?_
  refine s0_388 ?_
  refine s0_389 rfl (own_r31 a b c pd w) rfl ?_
  refine s0_392 ?_
  refine s0_394c (fun h => absurd rfl h) (fun _ => ?_)
  refine s0_398 ?_
  refine s0_400 ?_
  refine s0_401 ?_
  refine s0_402 rfl (own_r32 a b c pd w) rfl ?_
  refine s0_405 ?_
  refine s0_407c (fun h => absurd h (by decide)) (fun _ => ?_)
  refine s0_411 ?_
  refine s0_413 ?_
  refine s0_414 ?_
  refine s0_415 rfl (own_r33 a b c pd w) rfl ?_
  refine s0_418 ?_
  refine s0_420c (fun h => absurd rfl h) (fun _ => ?_)
  refine s0_424 ?_
  refine s0_425 ?_
  exact s0_429 rfl
set_option maxHeartbeats 4000000 in
theorem own_c00d0 (a b c pd : Int32) (w : Int64) (flags : Int32) (hb : w < b.toInt64 - pd.toInt64) : W0 room_1 57 [.val (.int a), .val (.int b), .val (.int c), .val (.int pd), .val (.long w), .second, .val (.int flags), .val (.int 0), .val (.int 1), .val (.int 0), .val (.int 0), .unset, .unset, .unset, .unset, .unset, .unset, .unset, .unset, .unset, .unset, .unset, .unset, .unset, .unset, .unset] [] [] (fun r _ => r = some (.int 1)) := by
  refine s0_57 ?_
  refine s0_58 0 2 (by decide) rfl rfl ?_
  refine s0_60 rfl ?_
  refine s0_61 ?_
  refine s0_62 ?_
  refine s0_63 0 rfl (by decide) rfl ?_
  refine s0_64 rfl ?_
  refine s0_65 ?_
  refine s0_66 ?_
  refine s0_67 1 rfl (by decide) rfl ?_
  refine s0_68 rfl ?_
  refine s0_70 ?_
  refine s0_71 1 2 (by decide) rfl rfl ?_
  refine s0_73 rfl ?_
  refine s0_74 ?_
  refine s0_75 ?_
  refine s0_76 0 rfl (by decide) rfl ?_
  refine s0_77 rfl ?_
  refine s0_78 ?_
  refine s0_79 ?_
  refine s0_80 1 rfl (by decide) rfl ?_
  refine s0_81 rfl ?_
  refine s0_83 2 rfl rfl ?_
  refine s0_86 rfl ?_
  refine s0_87 ?_
  refine s0_89 ?_
  refine s0_91 ?_
  refine s0_93 (own_r2 a b c pd w) rfl ?_
  refine s0_96 rfl ?_
  refine s0_98 ?_
  refine s0_100 (fun _ => ?_) (fun h => absurd h (by decide))
  refine s0_117 ?_
  refine s0_119 (fun _ => ?_) (fun h => absurd h (by decide))
  refine s0_136 ?_
  refine s0_138 (fun h => absurd h (by decide)) (fun _ => ?_)
  refine s0_141 ?_
  refine s0_143 ?_
  refine s0_144 rfl (own_r18 a b c pd w) rfl ?_
  refine s0_147 ?_
  refine s0_149 ?_
  refine s0_150 ?_
  refine s0_151 ?_
  refine s0_152 rfl (own_r20 a b c pd w) rfl ?_
  refine s0_155 ?_
  refine s0_157 (fun _ => ?_) (fun h => absurd h (by decide))
  refine s0_164 ?_
  refine s0_165 rfl ?_
  refine s0_167 ?_
  refine s0_169 ?_
  refine s0_171 ?_
  refine s0_172 rfl (own_r36 a b c pd w hb) rfl ?_
  refine s0_175 rfl ?_
  refine s0_177 ?_
  refine s0_179 (fun _ => ?_) (fun h => absurd h (by decide))
  refine s0_196 ?_
  refine s0_197 rfl ?_
  refine s0_199 ?_
  refine s0_201 (fun _ => ?_) (fun h => absurd h (by decide))
  refine s0_218 ?_
  refine s0_219 rfl ?_
  refine s0_221 ?_
  refine s0_223 (fun h => absurd h (by decide)) (fun _ => ?_)
  refine s0_226 ?_
  refine s0_227 ?_
  refine s0_228 ?_
  refine s0_230 (own_fit0 _ _ _ _ hb) rfl ?_
  refine s0_233 (fun _ => ?_) (fun h => absurd h (by decide))
  refine s0_240 ?_
  refine s0_241 rfl ?_
  refine s0_243 ?_
  refine s0_245 (fun _ => ?_) (fun h => absurd h (by decide))
  refine s0_264 ?_
  refine s0_266 (fun _ => ?_) (fun h => absurd h (by decide))
  refine s0_274 ?_
  refine s0_277 rfl ?_
  refine s0_279 ?_
  refine s0_281 (fun h => absurd h (by decide)) (fun _ => ?_)
  refine s0_284 ?_
  refine s0_286 (fun _ => ?_) (fun h => absurd h (by decide))
  refine s0_294 ?_
  refine s0_297 ?_
  refine s0_313 rfl ?_
  refine s0_315 ?_
  refine s0_317 (fun h => absurd h (by decide)) (fun _ => ?_)
  refine s0_320 ?_
  refine s0_322 (fun _ => ?_) (fun h => absurd h (by decide))
  refine s0_330 ?_
  refine s0_333 ?_
  refine s0_349 rfl ?_
  refine s0_351 ?_
  refine s0_353 (fun _ => ?_) (fun h => absurd h (by decide))
  refine s0_361 ?_
  refine s0_363 (fun h => absurd h (by decide)) (fun _ => ?_)
  refine s0_366 ?_
  refine s0_368 (fun _ => ?_) (fun h => absurd h (by decide))
  refine s0_375 ?_
  refine s0_376 rfl ?_
  refine s0_378 ?_
  refine s0_380 ?_
  refine s0_382 (fun h => absurd h (by decide)) (fun _ => ?_)
  refine s0_385 ?_
  refine s0_387 ?_
  refine s0_388 ?_
  refine s0_389 rfl (own_r38 a b c pd w) rfl ?_
  refine s0_392 ?_
  refine s0_394c (fun h => absurd h (by decide)) (fun _ => ?_)
  refine s0_398 ?_
  refine s0_400 ?_
  refine s0_401 ?_
  refine s0_402 rfl (own_r39 a b c pd w) rfl ?_
  refine s0_405 ?_
  refine s0_407c (fun h => absurd h (by decide)) (fun _ => ?_)
  refine s0_411 ?_
  refine s0_413 ?_
  refine s0_414 ?_
  refine s0_415 rfl (own_r40 a b c pd w) rfl ?_
  refine s0_418 ?_
  refine s0_420c (fun h => absurd h (by decide)) (fun _ => ?_)
  refine s0_424 ?_
  refine s0_425 ?_
  exact s0_429 rfl
set_option maxHeartbeats 4000000 in
theorem own_c00dk (a b c pd : Int32) (w : Int64) (flags : Int32) (hb : w < b.toInt64 - pd.toInt64) (hc : ¬ w < c.toInt64 - pd.toInt64) : W0 room_1 57 [.val (.int a), .val (.int b), .val (.int c), .val (.int pd), .val (.long w), .second, .val (.int flags), .val (.int 0), .val (.int 1), .val (.int 1), .val (.int 0), .unset, .unset, .unset, .unset, .unset, .unset, .unset, .unset, .unset, .unset, .unset, .unset, .unset, .unset, .unset] [] [] (fun r _ => r = some (.int 1)) := by
  refine s0_57 ?_
  refine s0_58 0 2 (by decide) rfl rfl ?_
  refine s0_60 rfl ?_
  refine s0_61 ?_
  refine s0_62 ?_
  refine s0_63 0 rfl (by decide) rfl ?_
  refine s0_64 rfl ?_
  refine s0_65 ?_
  refine s0_66 ?_
  refine s0_67 1 rfl (by decide) rfl ?_
  refine s0_68 rfl ?_
  refine s0_70 ?_
  refine s0_71 1 2 (by decide) rfl rfl ?_
  refine s0_73 rfl ?_
  refine s0_74 ?_
  refine s0_75 ?_
  refine s0_76 0 rfl (by decide) rfl ?_
  refine s0_77 rfl ?_
  refine s0_78 ?_
  refine s0_79 ?_
  refine s0_80 1 rfl (by decide) rfl ?_
  refine s0_81 rfl ?_
  refine s0_83 2 rfl rfl ?_
  refine s0_86 rfl ?_
  refine s0_87 ?_
  refine s0_89 ?_
  refine s0_91 ?_
  refine s0_93 (own_r2 a b c pd w) rfl ?_
  refine s0_96 rfl ?_
  refine s0_98 ?_
  refine s0_100 (fun h => absurd h (by decide)) (fun _ => ?_)
  refine s0_103 ?_
  refine s0_105 ?_
  refine s0_106 rfl (own_r8 a b c pd w) rfl ?_
  refine s0_109 ?_
  refine s0_111 ?_
  refine s0_112 ?_
  refine s0_113 ?_
  refine s0_114 rfl (own_r10 a b c pd w) rfl ?_
  refine s0_117 ?_
  refine s0_119 (fun _ => ?_) (fun h => absurd h (by decide))
  refine s0_136 ?_
  refine s0_138 (fun h => absurd h (by decide)) (fun _ => ?_)
  refine s0_141 ?_
  refine s0_143 ?_
  refine s0_144 rfl (own_r26 a b c pd w) rfl ?_
  refine s0_147 ?_
  refine s0_149 ?_
  refine s0_150 ?_
  refine s0_151 ?_
  refine s0_152 rfl (own_r28 a b c pd w) rfl ?_
  refine s0_155 ?_
  refine s0_157 (fun _ => ?_) (fun h => absurd h (by decide))
  refine s0_164 ?_
  refine s0_165 rfl ?_
  refine s0_167 ?_
  refine s0_169 ?_
  refine s0_171 ?_
  refine s0_172 rfl (own_r41 a b c pd w hb hc) rfl ?_
  refine s0_175 rfl ?_
  refine s0_177 ?_
  refine s0_179 (fun h => absurd h (by decide)) (fun _ => ?_)
  refine s0_182 ?_
  refine s0_183 ?_
  refine s0_184 ?_
  refine s0_186 (own_fit1 _ _ _ _ hc) rfl ?_
  refine s0_189 (fun h => absurd h (by decide)) (fun _ => ?_)
  refine s0_192 ?_
  refine s0_193 ?_
  refine s0_197 rfl ?_
  refine s0_199 ?_
  refine s0_201 (fun _ => ?_) (fun h => absurd h (by decide))
  refine s0_218 ?_
  refine s0_219 rfl ?_
  refine s0_221 ?_
  refine s0_223 (fun h => absurd h (by decide)) (fun _ => ?_)
  refine s0_226 ?_
  refine s0_227 ?_
  refine s0_228 ?_
  refine s0_230 (own_fit0 _ _ _ _ hb) rfl ?_
  refine s0_233 (fun _ => ?_) (fun h => absurd h (by decide))
  refine s0_240 ?_
  refine s0_241 rfl ?_
  refine s0_243 ?_
  refine s0_245 (fun _ => ?_) (fun h => absurd h (by decide))
  refine s0_264 ?_
  refine s0_266 (fun h => absurd h (by decide)) (fun _ => ?_)
  refine s0_269 ?_
  refine s0_270 ?_
  refine s0_271 ?_
  refine s0_277 rfl ?_
  refine s0_279 ?_
  refine s0_281 (fun h => absurd h (by decide)) (fun _ => ?_)
  refine s0_284 ?_
  refine s0_286 (fun _ => ?_) (fun h => absurd h (by decide))
  refine s0_294 ?_
  refine s0_297 ?_
  refine s0_313 rfl ?_
  refine s0_315 ?_
  refine s0_317 (fun h => absurd h (by decide)) (fun _ => ?_)
  refine s0_320 ?_
  refine s0_322 (fun _ => ?_) (fun h => absurd h (by decide))
  refine s0_330 ?_
  refine s0_333 ?_
  refine s0_349 rfl ?_
  refine s0_351 ?_
  refine s0_353 (fun _ => ?_) (fun h => absurd h (by decide))
  refine s0_361 ?_
  refine s0_363 (fun h => absurd h (by decide)) (fun _ => ?_)
  refine s0_366 ?_
  refine s0_368 (fun _ => ?_) (fun h => absurd h (by decide))
  refine s0_375 ?_
  refine s0_376 rfl ?_
  refine s0_378 ?_
  refine s0_380 ?_
  refine s0_382 (fun h => absurd h (by decide)) (fun _ => ?_)
  refine s0_385 ?_
  refine s0_387 ?_
  refine s0_388 ?_
  refine s0_389 rfl (own_r43 a b c pd w) rfl ?_
  refine s0_392 ?_
  refine s0_394c (fun h => absurd rfl h) (fun _ => ?_)
  refine s0_398 ?_
  refine s0_400 ?_
  refine s0_401 ?_
  refine s0_402 rfl (own_r44 a b c pd w) rfl ?_
  refine s0_405 ?_
  refine s0_407c (fun h => absurd h (by decide)) (fun _ => ?_)
  refine s0_411 ?_
  refine s0_413 ?_
  refine s0_414 ?_
  refine s0_415 rfl (own_r45 a b c pd w) rfl ?_
  refine s0_418 ?_
  refine s0_420c (fun h => absurd h (by decide)) (fun _ => ?_)
  refine s0_424 ?_
  refine s0_425 ?_
  exact s0_429 rfl
set_option maxHeartbeats 4000000 in
theorem own_c00dd (a b c pd : Int32) (w : Int64) (flags : Int32) (hb : w < b.toInt64 - pd.toInt64) (hc : w < c.toInt64 - pd.toInt64) : W0 room_1 57 [.val (.int a), .val (.int b), .val (.int c), .val (.int pd), .val (.long w), .second, .val (.int flags), .val (.int 0), .val (.int 1), .val (.int 1), .val (.int 0), .unset, .unset, .unset, .unset, .unset, .unset, .unset, .unset, .unset, .unset, .unset, .unset, .unset, .unset, .unset] [] [] (fun r _ => r = some (.int 1)) := by
  refine s0_57 ?_
  refine s0_58 0 2 (by decide) rfl rfl ?_
  refine s0_60 rfl ?_
  refine s0_61 ?_
  refine s0_62 ?_
  refine s0_63 0 rfl (by decide) rfl ?_
  refine s0_64 rfl ?_
  refine s0_65 ?_
  refine s0_66 ?_
  refine s0_67 1 rfl (by decide) rfl ?_
  refine s0_68 rfl ?_
  refine s0_70 ?_
  refine s0_71 1 2 (by decide) rfl rfl ?_
  refine s0_73 rfl ?_
  refine s0_74 ?_
  refine s0_75 ?_
  refine s0_76 0 rfl (by decide) rfl ?_
  refine s0_77 rfl ?_
  refine s0_78 ?_
  refine s0_79 ?_
  refine s0_80 1 rfl (by decide) rfl ?_
  refine s0_81 rfl ?_
  refine s0_83 2 rfl rfl ?_
  refine s0_86 rfl ?_
  refine s0_87 ?_
  refine s0_89 ?_
  refine s0_91 ?_
  refine s0_93 (own_r2 a b c pd w) rfl ?_
  refine s0_96 rfl ?_
  refine s0_98 ?_
  refine s0_100 (fun h => absurd h (by decide)) (fun _ => ?_)
  refine s0_103 ?_
  refine s0_105 ?_
  refine s0_106 rfl (own_r8 a b c pd w) rfl ?_
  refine s0_109 ?_
  refine s0_111 ?_
  refine s0_112 ?_
  refine s0_113 ?_
  refine s0_114 rfl (own_r10 a b c pd w) rfl ?_
  refine s0_117 ?_
  refine s0_119 (fun _ => ?_) (fun h => absurd h (by decide))
  refine s0_136 ?_
  refine s0_138 (fun h => absurd h (by decide)) (fun _ => ?_)
  refine s0_141 ?_
  refine s0_143 ?_
  refine s0_144 rfl (own_r26 a b c pd w) rfl ?_
  refine s0_147 ?_
  refine s0_149 ?_
  refine s0_150 ?_
  refine s0_151 ?_
  refine s0_152 rfl (own_r28 a b c pd w) rfl ?_
  refine s0_155 ?_
  refine s0_157 (fun _ => ?_) (fun h => absurd h (by decide))
  refine s0_164 ?_
  refine s0_165 rfl ?_
  refine s0_167 ?_
  refine s0_169 ?_
  refine s0_171 ?_
  refine s0_172 rfl (own_r46 a b c pd w hb hc) rfl ?_
  refine s0_175 rfl ?_
  refine s0_177 ?_
  refine s0_179 (fun h => absurd h (by decide)) (fun _ => ?_)
  refine s0_182 ?_
  refine s0_183 ?_
  refine s0_184 ?_
  refine s0_186 (own_fit0 _ _ _ _ hc) rfl ?_
  refine s0_189 (fun _ => ?_) (fun h => absurd h (by decide))
  refine s0_196 ?_
  refine s0_197 rfl ?_
  refine s0_199 ?_
  refine s0_201 (fun _ => ?_) (fun h => absurd h (by decide))
  refine s0_218 ?_
  refine s0_219 rfl ?_
  refine s0_221 ?_
  refine s0_223 (fun h => absurd h (by decide)) (fun _ => ?_)
  refine s0_226 ?_
  refine s0_227 ?_
  refine s0_228 ?_
  refine s0_230 (own_fit0 _ _ _ _ hb) rfl ?_
  refine s0_233 (fun _ => ?_) (fun h => absurd h (by decide))
  refine s0_240 ?_
  refine s0_241 rfl ?_
  refine s0_243 ?_
  refine s0_245 (fun _ => ?_) (fun h => absurd h (by decide))
  refine s0_264 ?_
  refine s0_266 (fun h => absurd h (by decide)) (fun _ => ?_)
  refine s0_269 ?_
  refine s0_270 ?_
  refine s0_271 ?_
  refine s0_277 rfl ?_
  refine s0_279 ?_
  refine s0_281 (fun h => absurd h (by decide)) (fun _ => ?_)
  refine s0_284 ?_
  refine s0_286 (fun _ => ?_) (fun h => absurd h (by decide))
  refine s0_294 ?_
  refine s0_297 ?_
  refine s0_313 rfl ?_
  refine s0_315 ?_
  refine s0_317 (fun h => absurd h (by decide)) (fun _ => ?_)
  refine s0_320 ?_
  refine s0_322 (fun _ => ?_) (fun h => absurd h (by decide))
  refine s0_330 ?_
  refine s0_333 ?_
  refine s0_349 rfl ?_
  refine s0_351 ?_
  refine s0_353 (fun _ => ?_) (fun h => absurd h (by decide))
  refine s0_361 ?_
  refine s0_363 (fun h => absurd h (by decide)) (fun _ => ?_)
  refine s0_366 ?_
  refine s0_368 (fun _ => ?_) (fun h => absurd h (by decide))
  refine s0_375 ?_
  refine s0_376 rfl ?_
  refine s0_378 ?_
  refine s0_380 ?_
  refine s0_382 (fun h => absurd h (by decide)) (fun _ => ?_)
  refine s0_385 ?_
  refine s0_387 ?_
  refine s0_388 ?_
  refine s0_389 rfl (own_r43 a b c pd w) rfl ?_
  refine s0_392 ?_
  refine s0_394c (fun h => absurd rfl h) (fun _ => ?_)
  refine s0_398 ?_
  refine s0_400 ?_
  refine s0_401 ?_
  refine s0_402 rfl (own_r44 a b c pd w) rfl ?_
  refine s0_405 ?_
  refine s0_407c (fun h => absurd h (by decide)) (fun _ => ?_)
  refine s0_411 ?_
  refine s0_413 ?_
  refine s0_414 ?_
  refine s0_415 rfl (own_r45 a b c pd w) rfl ?_
  refine s0_418 ?_
  refine s0_420c (fun h => absurd h (by decide)) (fun _ => ?_)
  refine s0_424 ?_
  refine s0_425 ?_
  exact s0_429 rfl
set_option maxHeartbeats 4000000 in
theorem own_c0k00 (a b c pd : Int32) (w : Int64) (flags : Int32) (ha : ¬ w < a.toInt64 - pd.toInt64) : W0 room_1 57 [.val (.int a), .val (.int b), .val (.int c), .val (.int pd), .val (.long w), .second, .val (.int flags), .val (.int 1), .val (.int 0), .val (.int 0), .val (.int 0), .unset, .unset, .unset, .unset, .unset, .unset, .unset, .unset, .unset, .unset, .unset, .unset, .unset, .unset, .unset] [] [] (fun r _ => r = some (.int 1)) := by
  refine s0_57 ?_
  refine s0_58 0 2 (by decide) rfl rfl ?_
  refine s0_60 rfl ?_
  refine s0_61 ?_
  refine s0_62 ?_
  refine s0_63 0 rfl (by decide) rfl ?_
  refine s0_64 rfl ?_
  refine s0_65 ?_
  refine s0_66 ?_
  refine s0_67 1 rfl (by decide) rfl ?_
  refine s0_68 rfl ?_
  refine s0_70 ?_
  refine s0_71 1 2 (by decide) rfl rfl ?_
  refine s0_73 rfl ?_
  refine s0_74 ?_
  refine s0_75 ?_
  refine s0_76 0 rfl (by decide) rfl ?_
  refine s0_77 rfl ?_
  refine s0_78 ?_
  refine s0_79 ?_
  refine s0_80 1 rfl (by decide) rfl ?_
  refine s0_81 rfl ?_
  refine s0_83 2 rfl rfl ?_
  refine s0_86 rfl ?_
  refine s0_87 ?_
  refine s0_89 ?_
  refine s0_91 ?_
  refine s0_93 (own_r2 a b c pd w) rfl ?_
  refine s0_96 rfl ?_
  refine s0_98 ?_
  refine s0_100 (fun _ => ?_) (fun h => absurd h (by decide))
  refine s0_117 ?_
  refine s0_119 (fun h => absurd h (by decide)) (fun _ => ?_)
  refine s0_122 ?_
  refine s0_124 ?_
  refine s0_125 rfl (own_r48 a b c pd w) rfl ?_
  refine s0_128 ?_
  refine s0_130 ?_
  refine s0_131 ?_
  refine s0_132 ?_
  refine s0_133 rfl (own_r50 a b c pd w) rfl ?_
  refine s0_136 ?_
  refine s0_138 (fun _ => ?_) (fun h => absurd h (by decide))
  refine s0_155 ?_
  refine s0_157 (fun _ => ?_) (fun h => absurd h (by decide))
  refine s0_164 ?_
  refine s0_165 rfl ?_
  refine s0_167 ?_
  refine s0_169 ?_
  refine s0_171 ?_
  refine s0_172 rfl (own_r51 a b c pd w ha) rfl ?_
  refine s0_175 rfl ?_
  refine s0_177 ?_
  refine s0_179 (fun _ => ?_) (fun h => absurd h (by decide))
  refine s0_196 ?_
  refine s0_197 rfl ?_
  refine s0_199 ?_
  refine s0_201 (fun h => absurd h (by decide)) (fun _ => ?_)
  refine s0_204 ?_
  refine s0_205 ?_
  refine s0_206 ?_
  refine s0_208 (own_fit1 _ _ _ _ ha) rfl ?_
  refine s0_211 (fun h => absurd h (by decide)) (fun _ => ?_)
  refine s0_214 ?_
  refine s0_215 ?_
  refine s0_219 rfl ?_
  refine s0_221 ?_
  refine s0_223 (fun _ => ?_) (fun h => absurd h (by decide))
  refine s0_240 ?_
  refine s0_241 rfl ?_
  refine s0_243 ?_
  refine s0_245 (fun _ => ?_) (fun h => absurd h (by decide))
  refine s0_264 ?_
  refine s0_266 (fun _ => ?_) (fun h => absurd h (by decide))
  refine s0_274 ?_
  refine s0_277 rfl ?_
  refine s0_279 ?_
  refine s0_281 (fun h => absurd h (by decide)) (fun _ => ?_)
  refine s0_284 ?_
  refine s0_286 (fun h => absurd h (by decide)) (fun _ => ?_)
  refine s0_289 ?_
  refine s0_290 ?_
  refine s0_291 ?_
  refine s0_313 rfl ?_
  refine s0_315 ?_
  refine s0_317 (fun h => absurd h (by decide)) (fun _ => ?_)
  refine s0_320 ?_
  refine s0_322 (fun _ => ?_) (fun h => absurd h (by decide))
  refine s0_330 ?_
  refine s0_333 ?_
  refine s0_349 rfl ?_
  refine s0_351 ?_
  refine s0_353 (fun _ => ?_) (fun h => absurd h (by decide))
  refine s0_361 ?_
  refine s0_363 (fun _ => ?_) (fun h => absurd h (by decide))
  refine s0_371 ?_
  refine s0_372 ?_
  refine s0_376 rfl ?_
  refine s0_378 ?_
  refine s0_380 ?_
  refine s0_382 (fun h => absurd h (by decide)) (fun _ => ?_)
  refine s0_385 ?_
  refine s0_387 ?_
  refine s0_388 ?_
  refine s0_389 rfl (own_r53 a b c pd w) rfl ?_
  refine s0_392 ?_
  refine s0_394c (fun h => absurd h (by decide)) (fun _ => ?_)
  refine s0_398 ?_
  refine s0_400 ?_
  refine s0_401 ?_
  refine s0_402 rfl (own_r54 a b c pd w) rfl ?_
  refine s0_405 ?_
  refine s0_407c (fun h => absurd rfl h) (fun _ => ?_)
  refine s0_411 ?_
  refine s0_413 ?_
  refine s0_414 ?_
  refine s0_415 rfl (own_r55 a b c pd w) rfl ?_
  refine s0_418 ?_
  refine s0_420c (fun h => absurd h (by decide)) (fun _ => ?_)
  refine s0_424 ?_
  refine s0_425 ?_
  exact s0_429 rfl
set_option maxHeartbeats 4000000 in
theorem own_c0k0k (a b c pd : Int32) (w : Int64) (flags : Int32) (ha : ¬ w < a.toInt64 - pd.toInt64) (hc : ¬ w < c.toInt64 - pd.toInt64) : W0 room_1 57 [.val (.int a), .val (.int b), .val (.int c), .val (.int pd), .val (.long w), .second, .val (.int flags), .val (.int 1), .val (.int 0), .val (.int 1), .val (.int 0), .unset, .unset, .unset, .unset, .unset, .unset, .unset, .unset, .unset, .unset, .unset, .unset, .unset, .unset, .unset] [] [] (fun r _ => r = some (.int 1)) := by
  refine s0_57 ?_
  refine s0_58 0 2 (by decide) rfl rfl ?_
  refine s0_60 rfl ?_
  refine s0_61 ?_
  refine s0_62 ?_
  refine s0_63 0 rfl (by decide) rfl ?_
  refine s0_64 rfl ?_
  refine s0_65 ?_
  refine s0_66 ?_
  refine s0_67 1 rfl (by decide) rfl ?_
  refine s0_68 rfl ?_
  refine s0_70 ?_
  refine s0_71 1 2 (by decide) rfl rfl ?_
  refine s0_73 rfl ?_
  refine s0_74 ?_
  refine s0_75 ?_
  refine s0_76 0 rfl (by decide) rfl ?_
  refine s0_77 rfl ?_
  refine s0_78 ?_
  refine s0_79 ?_
  refine s0_80 1 rfl (by decide) rfl ?_
  refine s0_81 rfl ?_
  refine s0_83 2 rfl rfl ?_
  refine s0_86 rfl ?_
  refine s0_87 ?_
  refine s0_89 ?_
  refine s0_91 ?_
  refine s0_93 (own_r2 a b c pd w) rfl ?_
  refine s0_96 rfl ?_
  refine s0_98 ?_
  refine s0_100 (fun h => absurd h (by decide)) (fun _ => ?_)
  refine s0_103 ?_
  refine s0_105 ?_
  refine s0_106 rfl (own_r8 a b c pd w) rfl ?_
  refine s0_109 ?_
  refine s0_111 ?_
  refine s0_112 ?_
  refine s0_113 ?_
  refine s0_114 rfl (own_r10 a b c pd w) rfl ?_
  refine s0_117 ?_
  refine s0_119 (fun h => absurd h (by decide)) (fun _ => ?_)
  refine s0_122 ?_
  refine s0_124 ?_
  refine s0_125 rfl (own_r56 a b c pd w) rfl ?_
  refine s0_128 ?_
  refine s0_130 ?_
  refine s0_131 ?_
  refine s0_132 ?_
  refine s0_133 rfl (own_r58 a b c pd w) rfl ?_
  refine s0_136 ?_
  refine s0_138 (fun _ => ?_) (fun h => absurd h (by decide))
  refine s0_155 ?_
  refine s0_157 (fun _ => ?_) (fun h => absurd h (by decide))
  refine s0_164 ?_
  refine s0_165 rfl ?_
  refine s0_167 ?_
  refine s0_169 ?_
  refine s0_171 ?_
  refine s0_172 rfl (own_r59 a b c pd w ha hc) rfl ?_
  refine s0_175 rfl ?_
  refine s0_177 ?_
  refine s0_179 (fun h => absurd h (by decide)) (fun _ => ?_)
  refine s0_182 ?_
  refine s0_183 ?_
  refine s0_184 ?_
  refine s0_186 (own_fit1 _ _ _ _ hc) rfl ?_
  refine s0_189 (fun h => absurd h (by decide)) (fun _ => ?_)
  refine s0_192 ?_
  refine s0_193 ?_
  refine s0_197 rfl ?_
  refine s0_199 ?_
  refine s0_201 (fun h => absurd h (by decide)) (fun _ => ?_)
  refine s0_204 ?_
  refine s0_205 ?_
  refine s0_206 ?_
  refine s0_208 (own_fit1 _ _ _ _ ha) rfl ?_
  refine s0_211 (fun h => absurd h (by decide)) (fun _ => ?_)
  refine s0_214 ?_
  refine s0_215 ?_
  refine s0_219 rfl ?_
  refine s0_221 ?_
  refine s0_223 (fun _ => ?_) (fun h => absurd h (by decide))
  refine s0_240 ?_
  refine s0_241 rfl ?_
  refine s0_243 ?_
  refine s0_245 (fun _ => ?_) (fun h => absurd h (by decide))
  refine s0_264 ?_
  refine s0_266 (fun h => absurd h (by decide)) (fun _ => ?_)
  refine s0_269 ?_
  refine s0_270 ?_
  refine s0_271 ?_
  refine s0_277 rfl ?_
  refine s0_279 ?_
  refine s0_281 (fun h => absurd h (by decide)) (fun _ => ?_)
  refine s0_284 ?_
  refine s0_286 (fun h => absurd h (by decide)) (fun _ => ?_)
  refine s0_289 ?_
  refine s0_290 ?_
  refine s0_291 ?_
  refine s0_313 rfl ?_
  refine s0_315 ?_
  refine s0_317 (fun h => absurd h (by decide)) (fun _ => ?_)
  refine s0_320 ?_
  refine s0_322 (fun _ => ?_) (fun h => absurd h (by decide))
  refine s0_330 ?_
  refine s0_333 ?_
  refine s0_349 rfl ?_
  refine s0_351 ?_
  refine s0_353 (fun _ => ?_) (fun h => absurd h (by decide))
  refine s0_361 ?_
  refine s0_363 (fun _ => ?_) (fun h => absurd h (by decide))
  refine s0_371 ?_
  refine s0_372 ?_
  refine s0_376 rfl ?_
  refine s0_378 ?_
  refine s0_380 ?_
  refine s0_382 (fun h => absurd h (by decide)) (fun _ => ?_)
  refine s0_385 ?_
  refine s0_387 ?_
  refine s0_388 ?_
  refine s0_389 rfl (own_r61 a b c pd w) rfl ?_
  refine s0_392 ?_
  refine s0_394c (fun h => absurd rfl h) (fun _ => ?_)
  refine s0_398 ?_
  refine s0_400 ?_
  refine s0_401 ?_
  refine s0_402 rfl (own_r62 a b c pd w) rfl ?_
  refine s0_405 ?_
  refine s0_407c (fun h => absurd rfl h) (fun _ => ?_)
  refine s0_411 ?_
  refine s0_413 ?_
  refine s0_414 ?_
  refine s0_415 rfl (own_r63 a b c pd w) rfl ?_
  refine s0_418 ?_
  refine s0_420c (fun h => absurd h (by decide)) (fun _ => ?_)
  refine s0_424 ?_
  refine s0_425 ?_
  exact s0_429 rfl
set_option maxHeartbeats 4000000 in
theorem own_c0k0d (a b c pd : Int32) (w : Int64) (flags : Int32) (ha : ¬ w < a.toInt64 - pd.toInt64) (hc : w < c.toInt64 - pd.toInt64) : W0 room_1 57 [.val (.int a), .val (.int b), .val (.int c), .val (.int pd), .val (.long w), .second, .val (.int flags), .val (.int 1), .val (.int 0), .val (.int 1), .val (.int 0), .unset, .unset, .unset, .unset, .unset, .unset, .unset, .unset, .unset, .unset, .unset, .unset, .unset, .unset, .unset] [] [] (fun r _ => r = some (.int 1)) := by
  refine s0_57 ?_
  refine s0_58 0 2 (by decide) rfl rfl ?_
  refine s0_60 rfl ?_
  refine s0_61 ?_
  refine s0_62 ?_
  refine s0_63 0 rfl (by decide) rfl ?_
  refine s0_64 rfl ?_
  refine s0_65 ?_
  refine s0_66 ?_
  refine s0_67 1 rfl (by decide) rfl ?_
  refine s0_68 rfl ?_
  refine s0_70 ?_
  refine s0_71 1 2 (by decide) rfl rfl ?_
  refine s0_73 rfl ?_
  refine s0_74 ?_
  refine s0_75 ?_
  refine s0_76 0 rfl (by decide) rfl ?_
  refine s0_77 rfl ?_
  refine s0_78 ?_
  refine s0_79 ?_
  refine s0_80 1 rfl (by decide) rfl ?_
  refine s0_81 rfl ?_
  refine s0_83 2 rfl rfl ?_
  refine s0_86 rfl ?_
  refine s0_87 ?_
  refine s0_89 ?_
  refine s0_91 ?_
  refine s0_93 (own_r2 a b c pd w) rfl ?_
  refine s0_96 rfl ?_
  refine s0_98 ?_
  refine s0_100 (fun h => absurd h (by decide)) (fun _ => ?_)
  refine s0_103 ?_
  refine s0_105 ?_
  refine s0_106 rfl (own_r8 a b c pd w) rfl ?_
  refine s0_109 ?_
  refine s0_111 ?_
  refine s0_112 ?_
  refine s0_113 ?_
  refine s0_114 rfl (own_r10 a b c pd w) rfl ?_
  refine s0_117 ?_
  refine s0_119 (fun h => absurd h (by decide)) (fun _ => ?_)
  refine s0_122 ?_
  refine s0_124 ?_
  refine s0_125 rfl (own_r56 a b c pd w) rfl ?_
  refine s0_128 ?_
  refine s0_130 ?_
  refine s0_131 ?_
  refine s0_132 ?_
  refine s0_133 rfl (own_r58 a b c pd w) rfl ?_
  refine s0_136 ?_
  refine s0_138 (fun _ => ?_) (fun h => absurd h (by decide))
  refine s0_155 ?_
  refine s0_157 (fun _ => ?_) (fun h => absurd h (by decide))
  refine s0_164 ?_
  refine s0_165 rfl ?_
  refine s0_167 ?_
  refine s0_169 ?_
  refine s0_171 ?_
  refine s0_172 rfl (own_r64 a b c pd w ha hc) rfl ?_
  refine s0_175 rfl ?_
  refine s0_177 ?_
  refine s0_179 (fun h => absurd h (by decide)) (fun _ => ?_)
  refine s0_182 ?_
  refine s0_183 ?_
  refine s0_184 ?_
  refine s0_186 (own_fit0 _ _ _ _ hc) rfl ?_
  refine s0_189 (fun _ => ?_) (fun h => absurd h (by decide))
  refine s0_196 ?_
  refine s0_197 rfl ?_
  refine s0_199 ?_
  refine s0_201 (fun h => absurd h (by decide)) (fun _ => ?_)
  refine s0_204 ?_
  refine s0_205 ?_
  refine s0_206 ?_
  refine s0_208 (own_fit1 _ _ _ _ ha) rfl ?_
  refine s0_211 (fun h => absurd h (by decide)) (fun _ => ?_)
  refine s0_214 ?_
  refine s0_215 ?_
  refine s0_219 rfl ?_
  refine s0_221 ?_
  refine s0_223 (fun _ => ?_) (fun h => absurd h (by decide))
  refine s0_240 ?_
  refine s0_241 rfl ?_
  refine s0_243 ?_
  refine s0_245 (fun _ => ?_) (fun h => absurd h (by decide))
  refine s0_264 ?_
  refine s0_266 (fun h => absurd h (by decide)) (fun _ => ?_)
  refine s0_269 ?_
  refine s0_270 ?_
  refine s0_271 ?_
  refine s0_277 rfl ?_
  refine s0_279 ?_
  refine s0_281 (fun h => absurd h (by decide)) (fun _ => ?_)
  refine s0_284 ?_
  refine s0_286 (fun h => absurd h (by decide)) (fun _ => ?_)
  refine s0_289 ?_
  refine s0_290 ?_
  refine s0_291 ?_
  refine s0_313 rfl ?_
  refine s0_315 ?_
  refine s0_317 (fun h => absurd h (by decide)) (fun _ => ?_)
  refine s0_320 ?_
  refine s0_322 (fun _ => ?_) (fun h => absurd h (by decide))
  refine s0_330 ?_
  refine s0_333 ?_
  refine s0_349 rfl ?_
  refine s0_351 ?_
  refine s0_353 (fun _ => ?_) (fun h => absurd h (by decide))
  refine s0_361 ?_
  refine s0_363 (fun _ => ?_) (fun h => absurd h (by decide))
  refine s0_371 ?_
  refine s0_372 ?_
  refine s0_376 rfl ?_
  refine s0_378 ?_
  refine s0_380 ?_
  refine s0_382 (fun h => absurd h (by decide)) (fun _ => ?_)
  refine s0_385 ?_
  refine s0_387 ?_
  refine s0_388 ?_
  refine s0_389 rfl (own_r61 a b c pd w) rfl ?_
  refine s0_392 ?_
  refine s0_394c (fun h => absurd rfl h) (fun _ => ?_)
  refine s0_398 ?_
  refine s0_400 ?_
  refine s0_401 ?_
  refine s0_402 rfl (own_r62 a b c pd w) rfl ?_
  refine s0_405 ?_
  refine s0_407c (fun h => absurd rfl h) (fun _ => ?_)
  refine s0_411 ?_
  refine s0_413 ?_
  refine s0_414 ?_
  refine s0_415 rfl (own_r63 a b c pd w) rfl ?_
  refine s0_418 ?_
  refine s0_420c (fun h => absurd h (by decide)) (fun _ => ?_)
  refine s0_424 ?_
  refine s0_425 ?_
  exact s0_429 rfl
set_option maxHeartbeats 4000000 in
theorem own_c0kk0 (a b c pd : Int32) (w : Int64) (flags : Int32) (ha : ¬ w < a.toInt64 - pd.toInt64) (hb : ¬ w < b.toInt64 - pd.toInt64) : W0 room_1 57 [.val (.int a), .val (.int b), .val (.int c), .val (.int pd), .val (.long w), .second, .val (.int flags), .val (.int 1), .val (.int 1), .val (.int 0), .val (.int 0), .unset, .unset, .unset, .unset, .unset, .unset, .unset, .unset, .unset, .unset, .unset, .unset, .unset, .unset, .unset] [] [] (fun r _ => r = some (.int 1)) := by
  refine s0_57 ?_
  refine s0_58 0 2 (by decide) rfl rfl ?_
  refine s0_60 rfl ?_
  refine s0_61 ?_
  refine s0_62 ?_
  refine s0_63 0 rfl (by decide) rfl ?_
  refine s0_64 rfl ?_
  refine s0_65 ?_
  refine s0_66 ?_
  refine s0_67 1 rfl (by decide) rfl ?_
  refine s0_68 rfl ?_
  refine s0_70 ?_
  refine s0_71 1 2 (by decide) rfl rfl ?_
  refine s0_73 rfl ?_
  refine s0_74 ?_
  refine s0_75 ?_
  refine s0_76 0 rfl (by decide) rfl ?_
  refine s0_77 rfl ?_
  refine s0_78 ?_
  refine s0_79 ?_
  refine s0_80 1 rfl (by decide) rfl ?_
  refine s0_81 rfl ?_
  refine s0_83 2 rfl rfl ?_
  refine s0_86 rfl ?_
  refine s0_87 ?_
  refine s0_89 ?_
  refine s0_91 ?_
  refine s0_93 (own_r2 a b c pd w) rfl ?_
  refine s0_96 rfl ?_
  refine s0_98 ?_
  refine s0_100 (fun _ => ?_) (fun h => absurd h (by decide))
  refine s0_117 ?_
  refine s0_119 (fun h => absurd h (by decide)) (fun _ => ?_)
  refine s0_122 ?_
  refine s0_124 ?_
  refine s0_125 rfl (own_r48 a b c pd w) rfl ?_
  refine s0_128 ?_
  refine s0_130 ?_
  refine s0_131 ?_
  refine s0_132 ?_
  refine s0_133 rfl (own_r50 a b c pd w) rfl ?_
  refine s0_136 ?_
  refine s0_138 (fun h => absurd h (by decide)) (fun _ => ?_)
  refine s0_141 ?_
  refine s0_143 ?_
  refine s0_144 rfl (own_r66 a b c pd w) rfl ?_
  refine s0_147 ?_
  refine s0_149 ?_
  refine s0_150 ?_
  refine s0_151 ?_
  refine s0_152 rfl (own_r68 a b c pd w) rfl ?_
  refine s0_155 ?_
  refine s0_157 (fun _ => ?_) (fun h => absurd h (by decide))
  refine s0_164 ?_
  refine s0_165 rfl ?_
  refine s0_167 ?_
  refine s0_169 ?_
  refine s0_171 ?_
  refine s0_172 rfl (own_r69 a b c pd w ha hb) rfl ?_
  refine s0_175 rfl ?_
  refine s0_177 ?_
  refine s0_179 (fun _ => ?_) (fun h => absurd h (by decide))
  refine s0_196 ?_
  refine s0_197 rfl ?_
  refine s0_199 ?_
  refine s0_201 (fun h => absurd h (by decide)) (fun _ => ?_)
  refine s0_204 ?_
  refine s0_205 ?_
  refine s0_206 ?_
  refine s0_208 (own_fit1 _ _ _ _ ha) rfl ?_
  refine s0_211 (fun h => absurd h (by decide)) (fun _ => ?_)
  refine s0_214 ?_
  refine s0_215 ?_
  refine s0_219 rfl ?_
  refine s0_221 ?_
  refine s0_223 (fun h => absurd h (by decide)) (fun _ => ?_)
  refine s0_226 ?_
  refine s0_227 ?_
  refine s0_228 ?_
  refine s0_230 (own_fit1 _ _ _ _ hb) rfl ?_
  refine s0_233 (fun h => absurd h (by decide)) (fun _ => ?_)
  refine s0_236 ?_
  refine s0_237 ?_
  refine s0_241 rfl ?_
  refine s0_243 ?_
  refine s0_245 (fun _ => ?_) (fun h => absurd h (by decide))
  refine s0_264 ?_
  refine s0_266 (fun _ => ?_) (fun h => absurd h (by decide))
  refine s0_274 ?_
  refine s0_277 rfl ?_
  refine s0_279 ?_
  refine s0_281 (fun h => absurd h (by decide)) (fun _ => ?_)
  refine s0_284 ?_
  refine s0_286 (fun h => absurd h (by decide)) (fun _ => ?_)
  refine s0_289 ?_
  refine s0_290 ?_
  refine s0_291 ?_
  refine s0_313 rfl ?_
  refine s0_315 ?_
  refine s0_317 (fun h => absurd h (by decide)) (fun _ => ?_)
  refine s0_320 ?_
  refine s0_322 (fun h => absurd h (by decide)) (fun _ => ?_)
  refine s0_325 ?_
  refine s0_326 ?_
  refine s0_327 ?_
  refine s0_349 rfl ?_
  refine s0_351 ?_
  refine s0_353 (fun _ => ?_) (fun h => absurd h (by decide))
  refine s0_361 ?_
  refine s0_363 (fun _ => ?_) (fun h => absurd h (by decide))
  refine s0_371 ?_
  refine s0_372 ?_
  refine s0_376 rfl ?_
  refine s0_378 ?_
  refine s0_380 ?_
  refine s0_382 (fun h => absurd h (by decide)) (fun _ => ?_)
  refine s0_385 ?_
  refine s0_387 ?_
  refine s0_388 ?_
  refine s0_389 rfl (own_r71 a b c pd w) rfl ?_
  refine s0_392 ?_
  refine s0_394c (fun h => absurd h (by decide)) (fun _ => ?_)
  refine s0_398 ?_
  refine s0_400 ?_
  refine s0_401 ?_
  refine s0_402 rfl (own_r72 a b c pd w) rfl ?_
  refine s0_405 ?_
  refine s0_407c (fun h => absurd rfl h) (fun _ => ?_)
  refine s0_411 ?_
  refine s0_413 ?_
  refine s0_414 ?_
  refine s0_415 rfl (own_r73 a b c pd w) rfl ?_
  refine s0_418 ?_
  refine s0_420c (fun h => absurd rfl h) (fun _ => ?_)
  refine s0_424 ?_
  refine s0_425 ?_
  exact s0_429 rfl
set_option maxHeartbeats 4000000 in
theorem own_c0kkk (a b c pd : Int32) (w : Int64) (flags : Int32) (ha : ¬ w < a.toInt64 - pd.toInt64) (hb : ¬ w < b.toInt64 - pd.toInt64) (hc : ¬ w < c.toInt64 - pd.toInt64) : W0 room_1 57 [.val (.int a), .val (.int b), .val (.int c), .val (.int pd), .val (.long w), .second, .val (.int flags), .val (.int 1), .val (.int 1), .val (.int 1), .val (.int 0), .unset, .unset, .unset, .unset, .unset, .unset, .unset, .unset, .unset, .unset, .unset, .unset, .unset, .unset, .unset] [] [] (fun r _ => r = some (.int 1)) := by
  refine s0_57 ?_
  refine s0_58 0 2 (by decide) rfl rfl ?_
  refine s0_60 rfl ?_
  refine s0_61 ?_
  refine s0_62 ?_
  refine s0_63 0 rfl (by decide) rfl ?_
  refine s0_64 rfl ?_
  refine s0_65 ?_
  refine s0_66 ?_
  refine s0_67 1 rfl (by decide) rfl ?_
  refine s0_68 rfl ?_
  refine s0_70 ?_
  refine s0_71 1 2 (by decide) rfl rfl ?_
  refine s0_73 rfl ?_
  refine s0_74 ?_
  refine s0_75 ?_
  refine s0_76 0 rfl (by decide) rfl ?_
  refine s0_77 rfl ?_
  refine s0_78 ?_
  refine s0_79 ?_
  refine s0_80 1 rfl (by decide) rfl ?_
  refine s0_81 rfl ?_
  refine s0_83 2 rfl rfl ?_
  refine s0_86 rfl ?_
  refine s0_87 ?_
  refine s0_89 ?_
  refine s0_91 ?_
  refine s0_93 (own_r2 a b c pd w) rfl ?_
  refine s0_96 rfl ?_
  refine s0_98 ?_
  refine s0_100 (fun h => absurd h (by decide)) (fun _ => ?_)
  refine s0_103 ?_
  refine s0_105 ?_
  refine s0_106 rfl (own_r8 a b c pd w) rfl ?_
  refine s0_109 ?_
  refine s0_111 ?_
  refine s0_112 ?_
  refine s0_113 ?_
  refine s0_114 rfl (own_r10 a b c pd w) rfl ?_
  refine s0_117 ?_
  refine s0_119 (fun h => absurd h (by decide)) (fun _ => ?_)
  refine s0_122 ?_
  refine s0_124 ?_
  refine s0_125 rfl (own_r56 a b c pd w) rfl ?_
  refine s0_128 ?_
  refine s0_130 ?_
  refine s0_131 ?_
  refine s0_132 ?_
  refine s0_133 rfl (own_r58 a b c pd w) rfl ?_
  refine s0_136 ?_
  refine s0_138 (fun h => absurd h (by decide)) (fun _ => ?_)
  refine s0_141 ?_
  refine s0_143 ?_
  refine s0_144 rfl (own_r74 a b c pd w) rfl ?_
  refine s0_147 ?_
  refine s0_149 ?_
  refine s0_150 ?_
  refine s0_151 ?_
  refine s0_152 rfl (own_r76 a b c pd w) rfl ?_
  refine s0_155 ?_
  refine s0_157 (fun _ => ?_) (fun h => absurd h (by decide))
  refine s0_164 ?_
  refine s0_165 rfl ?_
  refine s0_167 ?_
  refine s0_169 ?_
  refine s0_171 ?_
  refine s0_172 rfl (own_r77 a b c pd w ha hb hc) rfl ?_
  refine s0_175 rfl ?_
  refine s0_177 ?_
  refine s0_179 (fun h => absurd h (by decide)) (fun _ => ?_)
  refine s0_182 ?_
  refine s0_183 ?_
  refine s0_184 ?_
  refine s0_186 (own_fit1 _ _ _ _ hc) rfl ?_
  refine s0_189 (fun h => absurd h (by decide)) (fun _ => ?_)
  refine s0_192 ?_
  refine s0_193 ?_
  refine s0_197 rfl ?_
  refine s0_199 ?_
  refine s0_201 (fun h => absurd h (by decide)) (fun _ => ?_)
  refine s0_204 ?_
  refine s0_205 ?_
  refine s0_206 ?_
  refine s0_208 (own_fit1 _ _ _ _ ha) rfl ?_
  refine s0_211 (fun h => absurd h (by decide)) (fun _ => ?_)
  refine s0_214 ?_
  refine s0_215 ?_
  refine s0_219 rfl ?_
  refine s0_221 ?_
  refine s0_223 (fun h => absurd h (by decide)) (fun _ => ?_)
  refine s0_226 ?_
  refine s0_227 ?_
  refine s0_228 ?_
  refine s0_230 (own_fit1 _ _ _ _ hb) rfl ?_
  refine s0_233 (fun h => absurd h (by decide)) (fun _ => ?_)
  refine s0_236 ?_
  refine s0_237 ?_
  refine s0_241 rfl ?_
  refine s0_243 ?_
  refine s0_245 (fun _ => ?_) (fun h => absurd h (by decide))
  refine s0_264 ?_
  refine s0_266 (fun h => absurd h (by decide)) (fun _ => ?_)
  refine s0_269 ?_
  refine s0_270 ?_
  refine s0_271 ?_
  refine s0_277 rfl ?_
  refine s0_279 ?_
  refine s0_281 (fun h => absurd h (by decide)) (fun _ => ?_)
  refine s0_284 ?_
  refine s0_286 (fun h => absurd h (by decide)) (fun _ => ?_)
  refine s0_289 ?_
  refine s0_290 ?_
  refine s0_291 ?_
  refine s0_313 rfl ?_
  refine s0_315 ?_
  refine s0_317 (fun h => absurd h (by decide)) (fun _ => ?_)
  refine s0_320 ?_
  refine s0_322 (fun h => absurd h (by decide)) (fun _ => ?_)
  refine s0_325 ?_
  refine s0_326 ?_
  refine s0_327 ?_
  refine s0_349 rfl ?_
  refine s0_351 ?_
  refine s0_353 (fun _ => ?_) (fun h => absurd h (by decide))
  refine s0_361 ?_
  refine s0_363 (fun _ => ?_) (fun h => absurd h (by decide))
  refine s0_371 ?_
  refine s0_372 ?_
  refine s0_376 rfl ?_
  refine s0_378 ?_
  refine s0_380 ?_
  refine s0_382 (fun h => absurd h (by decide)) (fun _ => ?_)
  refine s0_385 ?_
  refine s0_387 ?_
  refine s0_388 ?_
  refine s0_389 rfl (own_r79 a b c pd w) rfl ?_
  refine s0_392 ?_
  refine s0_394c (fun h => absurd rfl h) (fun _ => ?_)
  refine s0_398 ?_
  refine s0_400 ?_
  refine s0_401 ?_
  refine s0_402 rfl (own_r80 a b c pd w) rfl ?_
  refine s0_405 ?_
  refine s0_407c (fun h => absurd rfl h) (fun _ => ?_)
  refine s0_411 ?_
  refine s0_413 ?_
  refine s0_414 ?_
  refine s0_415 rfl (own_r81 a b c pd w) rfl ?_
  refine s0_418 ?_
  refine s0_420c (fun h => absurd rfl h) (fun _ => ?_)
  refine s0_424 ?_
  refine s0_425 ?_
  exact s0_429 rfl
set_option maxHeartbeats 4000000 in
theorem own_c0kkd (a b c pd : Int32) (w : Int64) (flags : Int32) (ha : ¬ w < a.toInt64 - pd.toInt64) (hb : ¬ w < b.toInt64 - pd.toInt64) (hc : w < c.toInt64 - pd.toInt64) : W0 room_1 57 [.val (.int a), .val (.int b), .val (.int c), .val (.int pd), .val (.long w), .second, .val (.int flags), .val (.int 1), .val (.int 1), .val (.int 1), .val (.int 0), .unset, .unset, .unset, .unset, .unset, .unset, .unset, .unset, .unset, .unset, .unset, .unset, .unset, .unset, .unset] [] [] (fun r _ => r = some (.int 1)) := by
  refine s0_57 ?_
  refine s0_58 0 2 (by decide) rfl rfl ?_
  refine s0_60 rfl ?_
  refine s0_61 ?_
  refine s0_62 ?_
  refine s0_63 0 rfl (by decide) rfl ?_
  refine s0_64 rfl ?_
  refine s0_65 ?_
  refine s0_66 ?_
  refine s0_67 1 rfl (by decide) rfl ?_
  refine s0_68 rfl ?_
  refine s0_70 ?_
  refine s0_71 1 2 (by decide) rfl rfl ?_
  refine s0_73 rfl ?_
  refine s0_74 ?_
  refine s0_75 ?_
  refine s0_76 0 rfl (by decide) rfl ?_
  refine s0_77 rfl ?_
  refine s0_78 ?_
  refine s0_79 ?_
  refine s0_80 1 rfl (by decide) rfl ?_
  refine s0_81 rfl ?_
  refine s0_83 2 rfl rfl ?_
  refine s0_86 rfl ?_
  refine s0_87 ?_
  refine s0_89 ?_
  refine s0_91 ?_
  refine s0_93 (own_r2 a b c pd w) rfl ?_
  refine s0_96 rfl ?_
  refine s0_98 ?_
  refine s0_100 (fun h => absurd h (by decide)) (fun _ => ?_)
  refine s0_103 ?_
  refine s0_105 ?_
  refine s0_106 rfl (own_r8 a b c pd w) rfl ?_
  refine s0_109 ?_
  refine s0_111 ?_
  refine s0_112 ?_
  refine s0_113 ?_
  refine s0_114 rfl (own_r10 a b c pd w) rfl ?_
  refine s0_117 ?_
  refine s0_119 (fun h => absurd h (by decide)) (fun _ => ?_)
  refine s0_122 ?_
  refine s0_124 ?_
  refine s0_125 rfl (own_r56 a b c pd w) rfl ?_
  refine s0_128 ?_
  refine s0_130 ?_
  refine s0_131 ?_
  refine s0_132 ?_
  refine s0_133 rfl (own_r58 a b c pd w) rfl ?_
  refine s0_136 ?_
  refine s0_138 (fun h => absurd h (by decide)) (fun _ => ?_)
  refine s0_141 ?_
  refine s0_143 ?_
  refine s0_144 rfl (own_r74 a b c pd w) rfl ?_
  refine s0_147 ?_
  refine s0_149 ?_
  refine s0_150 ?_
  refine s0_151 ?_
  refine s0_152 rfl (own_r76 a b c pd w) rfl ?_
  refine s0_155 ?_
  refine s0_157 (fun _ => ?_) (fun h => absurd h (by decide))
  refine s0_164 ?_
  refine s0_165 rfl ?_
  refine s0_167 ?_
  refine s0_169 ?_
  refine s0_171 ?_
  refine s0_172 rfl (own_r82 a b c pd w ha hb hc) rfl ?_
  refine s0_175 rfl ?_
  refine s0_177 ?_
  refine s0_179 (fun h => absurd h (by decide)) (fun _ => ?_)
  refine s0_182 ?_
  refine s0_183 ?_
  refine s0_184 ?_
  refine s0_186 (own_fit0 _ _ _ _ hc) rfl ?_
  refine s0_189 (fun _ => ?_) (fun h => absurd h (by decide))
  refine s0_196 ?_
  refine s0_197 rfl ?_
  refine s0_199 ?_
  refine s0_201 (fun h => absurd h (by decide)) (fun _ => ?_)
  refine s0_204 ?_
  refine s0_205 ?_
  refine s0_206 ?_
  refine s0_208 (own_fit1 _ _ _ _ ha) rfl ?_
  refine s0_211 (fun h => absurd h (by decide)) (fun _ => ?_)
  refine s0_214 ?_
  refine s0_215 ?_
  refine s0_219 rfl ?_
  refine s0_221 ?_
  refine s0_223 (fun h => absurd h (by decide)) (fun _ => ?_)
  refine s0_226 ?_
  refine s0_227 ?_
  refine s0_228 ?_
  refine s0_230 (own_fit1 _ _ _ _ hb) rfl ?_
  refine s0_233 (fun h => absurd h (by decide)) (fun _ => ?_)
  refine s0_236 ?_
  refine s0_237 ?_
  refine s0_241 rfl ?_
  refine s0_243 ?_
  refine s0_245 (fun _ => ?_) (fun h => absurd h (by decide))
  refine s0_264 ?_
  refine s0_266 (fun h => absurd h (by decide)) (fun _ => ?_)
  refine s0_269 ?_
  refine s0_270 ?_
  refine s0_271 ?_
  refine s0_277 rfl ?_
  refine s0_279 ?_
  refine s0_281 (fun h => absurd h (by decide)) (fun _ => ?_)
  refine s0_284 ?_
  refine s0_286 (fun h => absurd h (by decide)) (fun _ => ?_)
  refine s0_289 ?_
  refine s0_290 ?_
  refine s0_291 ?_
  refine s0_313 rfl ?_
  refine s0_315 ?_
  refine s0_317 (fun h => absurd h (by decide)) (fun _ => ?_)
  refine s0_320 ?_
  refine s0_322 (fun h => absurd h (by decide)) (fun _ => ?_)
  refine s0_325 ?_
  refine s0_326 ?_
  refine s0_327 ?_
  refine s0_349 rfl ?_
  refine s0_351 ?_
  refine s0_353 (fun _ => ?_) (fun h => absurd h (by decide))
  refine s0_361 ?_
  refine s0_363 (fun _ => ?_) (fun h => absurd h (by decide))
  refine s0_371 ?_
  refine s0_372 ?_
  refine s0_376 rfl ?_
  refine s0_378 ?_
  refine s0_380 ?_
  refine s0_382 (fun h => absurd h (by decide)) (fun _ => ?_)
  refine s0_385 ?_
  refine s0_387 ?_
  refine s0_388 ?_
  refine s0_389 rfl (own_r79 a b c pd w) rfl ?_
  refine s0_392 ?_
  refine s0_394c (fun h => absurd rfl h) (fun _ => ?_)
  refine s0_398 ?_
  refine s0_400 ?_
  refine s0_401 ?_
  refine s0_402 rfl (own_r80 a b c pd w) rfl ?_
  refine s0_405 ?_
  refine s0_407c (fun h => absurd rfl h) (fun _ => ?_)
  refine s0_411 ?_
  refine s0_413 ?_
  refine s0_414 ?_
  refine s0_415 rfl (own_r81 a b c pd w) rfl ?_
  refine s0_418 ?_
  refine s0_420c (fun h => absurd rfl h) (fun _ => ?_)
  refine s0_424 ?_
  refine s0_425 ?_
  exact s0_429 rfl
set_option maxHeartbeats 4000000 in
theorem own_c0kd0 (a b c pd : Int32) (w : Int64) (flags : Int32) (ha : ¬ w < a.toInt64 - pd.toInt64) (hb : w < b.toInt64 - pd.toInt64) : W0 room_1 57 [.val (.int a), .val (.int b), .val (.int c), .val (.int pd), .val (.long w), .second, .val (.int flags), .val (.int 1), .val (.int 1), .val (.int 0), .val (.int 0), .unset, .unset, .unset, .unset, .unset, .unset, .unset, .unset, .unset, .unset, .unset, .unset, .unset, .unset, .unset] [] [] (fun r _ => r = some (.int 1)) := by
  refine s0_57 ?_
  refine s0_58 0 2 (by decide) rfl rfl ?_
  refine s0_60 rfl ?_
  refine s0_61 ?_
  refine s0_62 ?_
  refine s0_63 0 rfl (by decide) rfl ?_
  refine s0_64 rfl ?_
  refine s0_65 ?_
  refine s0_66 ?_
  refine s0_67 1 rfl (by decide) rfl ?_
  refine s0_68 rfl ?_
  refine s0_70 ?_
  refine s0_71 1 2 (by decide) rfl rfl ?_
  refine s0_73 rfl ?_
  refine s0_74 ?_
  refine s0_75 ?_
  refine s0_76 0 rfl (by decide) rfl ?_
  refine s0_77 rfl ?_
  refine s0_78 ?_
  refine s0_79 ?_
  refine s0_80 1 rfl (by decide) rfl ?_
  refine s0_81 rfl ?_
  refine s0_83 2 rfl rfl ?_
  refine s0_86 rfl ?_
  refine s0_87 ?_
  refine s0_89 ?_
  refine s0_91 ?_
  refine s0_93 (own_r2 a b c pd w) rfl ?_
  refine s0_96 rfl ?_
  refine s0_98 ?_
  refine s0_100 (fun _ => ?_) (fun h => absurd h (by decide))
  refine s0_117 ?_
  refine s0_119 (fun h => absurd h (by decide)) (fun _ => ?_)
  refine s0_122 ?_
  refine s0_124 ?_
  refine s0_125 rfl (own_r48 a b c pd w) rfl ?_
  refine s0_128 ?_
  refine s0_130 ?_
  refine s0_131 ?_
  refine s0_132 ?_
  refine s0_133 rfl (own_r50 a b c pd w) rfl ?_
  refine s0_136 ?_
  refine s0_138 (fun h => absurd h (by decide)) (fun _ => ?_)
  refine s0_141 ?_
  refine s0_143 ?_
  refine s0_144 rfl (own_r66 a b c pd w) rfl ?_
  refine s0_147 ?_
  refine s0_149 ?_
  refine s0_150 ?_
  refine s0_151 ?_
  refine s0_152 rfl (own_r68 a b c pd w) rfl ?_
  refine s0_155 ?_
  refine s0_157 (fun _ => ?_) (fun h => absurd h (by decide))
  refine s0_164 ?_
  refine s0_165 rfl ?_
  refine s0_167 ?_
  refine s0_169 ?_
  refine s0_171 ?_
  refine s0_172 rfl (own_r84 a b c pd w ha hb) rfl ?_
  refine s0_175 rfl ?_
  refine s0_177 ?_
  refine s0_179 (fun _ => ?_) (fun h => absurd h (by decide))
  refine s0_196 ?_
  refine s0_197 rfl ?_
  refine s0_199 ?_
  refine s0_201 (fun h => absurd h (by decide)) (fun _ => ?_)
  refine s0_204 ?_
  refine s0_205 ?_
  refine s0_206 ?_
  refine s0_208 (own_fit1 _ _ _ _ ha) rfl ?_
  refine s0_211 (fun h => absurd h (by decide)) (fun _ => ?_)
  refine s0_214 ?_
  refine s0_215 ?_
  refine s0_219 rfl ?_
  refine s0_221 ?_
  refine s0_223 (fun h => absurd h (by decide)) (fun _ => ?_)
  refine s0_226 ?_
  refine s0_227 ?_
  refine s0_228 ?_
  refine s0_230 (own_fit0 _ _ _ _ hb) rfl ?_
  refine s0_233 (fun _ => ?_) (fun h => absurd h (by decide))
  refine s0_240 ?_
  refine s0_241 rfl ?_
  refine s0_243 ?_
  refine s0_245 (fun _ => ?_) (fun h => absurd h (by decide))
  refine s0_264 ?_
  refine s0_266 (fun _ => ?_) (fun h => absurd h (by decide))
  refine s0_274 ?_
  refine s0_277 rfl ?_
  refine s0_279 ?_
  refine s0_281 (fun h => absurd h (by decide)) (fun _ => ?_)
  refine s0_284 ?_
  refine s0_286 (fun h => absurd h (by decide)) (fun _ => ?_)
  refine s0_289 ?_
  refine s0_290 ?_
  refine s0_291 ?_
  refine s0_313 rfl ?_
  refine s0_315 ?_
  refine s0_317 (fun h => absurd h (by decide)) (fun _ => ?_)
  refine s0_320 ?_
  refine s0_322 (fun _ => ?_) (fun h => absurd h (by decide))
  refine s0_330 ?_
  refine s0_333 ?_
  refine s0_349 rfl ?_
  refine s0_351 ?_
  refine s0_353 (fun _ => ?_) (fun h => absurd h (by decide))
  refine s0_361 ?_
  refine s0_363 (fun _ => ?_) (fun h => absurd h (by decide))
  refine s0_371 ?_
  refine s0_372 ?_
  refine s0_376 rfl ?_
  refine s0_378 ?_
  refine s0_380 ?_
  refine s0_382 (fun h => absurd h (by decide)) (fun _ => ?_)
  refine s0_385 ?_
  refine s0_387 ?_
  refine s0_388 ?_
  refine s0_389 rfl (own_r86 a b c pd w) rfl ?_
  refine s0_392 ?_
  refine s0_394c (fun h => absurd h (by decide)) (fun _ => ?_)
  refine s0_398 ?_
  refine s0_400 ?_
  refine s0_401 ?_
  refine s0_402 rfl (own_r87 a b c pd w) rfl ?_
  refine s0_405 ?_
  refine s0_407c (fun h => absurd rfl h) (fun _ => ?_)
  refine s0_411 ?_
  refine s0_413 ?_
  refine s0_414 ?_
  refine s0_415 rfl (own_r88 a b c pd w) rfl ?_
  refine s0_418 ?_
  refine s0_420c (fun h => absurd h (by decide)) (fun _ => ?_)
  refine s0_424 ?_
  refine s0_425 ?_
  exact s0_429 rfl
set_option maxHeartbeats 4000000 in
theorem own_c0kdk (a b c pd : Int32) (w : Int64) (flags : Int32) (ha : ¬ w < a.toInt64 - pd.toInt64) (hb : w < b.toInt64 - pd.toInt64) (hc : ¬ w < c.toInt64 - pd.toInt64) : W0 room_1 57 [.val (.int a), .val (.int b), .val (.int c), .val (.int pd), .val (.long w), .second, .val (.int flags), .val (.int 1), .val (.int 1), .val (.int 1), .val (.int 0), .unset, .unset, .unset, .unset, .unset, .unset, .unset, .unset, .unset, .unset, .unset, .unset, .unset, .unset, .unset] [] [] (fun r _ => r = some (.int 1)) := by
  refine s0_57 ?_
  refine s0_58 0 2 (by decide) rfl rfl ?_
  refine s0_60 rfl ?_
  refine s0_61 ?_
  refine s0_62 ?_
  refine s0_63 0 rfl (by decide) rfl ?_
  refine s0_64 rfl ?_
  refine s0_65 ?_
  refine s0_66 ?_
  refine s0_67 1 rfl (by decide) rfl ?_
  refine s0_68 rfl ?_
  refine s0_70 ?_
  refine s0_71 1 2 (by decide) rfl rfl ?_
  refine s0_73 rfl ?_
  refine s0_74 ?_
  refine s0_75 ?_
  refine s0_76 0 rfl (by decide) rfl ?_
  refine s0_77 rfl ?_
  refine s0_78 ?_
  refine s0_79 ?_
  refine s0_80 1 rfl (by decide) rfl ?_
  refine s0_81 rfl ?_
  refine s0_83 2 rfl rfl ?_
  refine s0_86 rfl ?_
  refine s0_87 ?_
  refine s0_89 ?_
  refine s0_91 ?_
  refine s0_93 (own_r2 a b c pd w) rfl ?_
  refine s0_96 rfl ?_
  refine s0_98 ?_
  refine s0_100 (fun h => absurd h (by decide)) (fun _ => ?_)
  refine s0_103 ?_
  refine s0_105 ?_
  refine s0_106 rfl (own_r8 a b c pd w) rfl ?_
  refine s0_109 ?_
  refine s0_111 ?_
  refine s0_112 ?_
  refine s0_113 ?_
  refine s0_114 rfl (own_r10 a b c pd w) rfl ?_
  refine s0_117 ?_
  refine s0_119 (fun h => absurd h (by decide)) (fun _ => ?_)
  refine s0_122 ?_
  refine s0_124 ?_
  refine s0_125 rfl (own_r56 a b c pd w) rfl ?_
  refine s0_128 ?_
  refine s0_130 ?_
  refine s0_131 ?_
  refine s0_132 ?_
  refine s0_133 rfl (own_r58 a b c pd w) rfl ?_
  refine s0_136 ?_
  refine s0_138 (fun h => absurd h (by decide)) (fun _ => ?_)
  refine s0_141 ?_
  refine s0_143 ?_
  refine s0_144 rfl (own_r74 a b c pd w) rfl ?_
  refine s0_147 ?_
  refine s0_149 ?_
  refine s0_150 ?_
  refine s0_151 ?_
  refine s0_152 rfl (own_r76 a b c pd w) rfl ?_
  refine s0_155 ?_
  refine s0_157 (fun _ => ?_) (fun h => absurd h (by decide))
  refine s0_164 ?_
  refine s0_165 rfl ?_
  refine s0_167 ?_
  refine s0_169 ?_
  refine s0_171 ?_
  refine s0_172 rfl (own_r89 a b c pd w ha hb hc) rfl ?_
  refine s0_175 rfl ?_
  refine s0_177 ?_
  refine s0_179 (fun h => absurd h (by decide)) (fun _ => ?_)
  refine s0_182 ?_
  refine s0_183 ?_
  refine s0_184 ?_
  refine s0_186 (own_fit1 _ _ _ _ hc) rfl ?_
  refine s0_189 (fun h => absurd h (by decide)) (fun _ => ?_)
  refine s0_192 ?_
  refine s0_193 ?_
  refine s0_197 rfl ?_
  refine s0_199 ?_
  refine s0_201 (fun h => absurd h (by decide)) (fun _ => ?_)
  refine s0_204 ?_
  refine s0_205 ?_
  refine s0_206 ?_
  refine s0_208 (own_fit1 _ _ _ _ ha) rfl ?_
  refine s0_211 (fun h => absurd h (by decide)) (fun _ => ?_)
  refine s0_214 ?_
  refine s0_215 ?_
  refine s0_219 rfl ?_
  refine s0_221 ?_
  refine s0_223 (fun h => absurd h (by decide)) (fun _ => ?_)
  refine s0_226 ?_
  refine s0_227 ?_
  refine s0_228 ?_
  refine s0_230 (own_fit0 _ _ _ _ hb) rfl ?_
  refine s0_233 (fun _ => ?_) (fun h => absurd h (by decide))
  refine s0_240 ?_
  refine s0_241 rfl ?_
  refine s0_243 ?_
  refine s0_245 (fun _ => ?_) (fun h => absurd h (by decide))
  refine s0_264 ?_
  refine s0_266 (fun h => absurd h (by decide)) (fun _ => ?_)
  refine s0_269 ?_
  refine s0_270 ?_
  refine s0_271 ?_
  refine s0_277 rfl ?_
  refine s0_279 ?_
  refine s0_281 (fun h => absurd h (by decide)) (fun _ => ?_)
  refine s0_284 ?_
  refine s0_286 (fun h => absurd h (by decide)) (fun _ => ?_)
  refine s0_289 ?_
  refine s0_290 ?_
  refine s0_291 ?_
  refine s0_313 rfl ?_
  refine s0_315 ?_
  refine s0_317 (fun h => absurd h (by decide)) (fun _ => ?_)
  refine s0_320 ?_
  refine s0_322 (fun _ => ?_) (fun h => absurd h (by decide))
  refine s0_330 ?_
  refine s0_333 ?_
  refine s0_349 rfl ?_
  refine s0_351 ?_
  refine s0_353 (fun _ => ?_) (fun h => absurd h (by decide))
  refine s0_361 ?_
  refine s0_363 (fun _ => ?_) (fun h => absurd h (by decide))
  refine s0_371 ?_
  refine s0_372 ?_
  refine s0_376 rfl ?_
  refine s0_378 ?_
  refine s0_380 ?_
  refine s0_382 (fun h => absurd h (by decide)) (fun _ => ?_)
  refine s0_385 ?_
  refine s0_387 ?_
  refine s0_388 ?_
  refine s0_389 rfl (own_r91 a b c pd w) rfl ?_
  refine s0_392 ?_
  refine s0_394c (fun h => absurd rfl h) (fun _ => ?_)
  refine s0_398 ?_
  refine s0_400 ?_
  refine s0_401 ?_
  refine s0_402 rfl (own_r92 a b c pd w) rfl ?_
  refine s0_405 ?_
  refine s0_407c (fun h => absurd rfl h) (fun _ => ?_)
  refine s0_411 ?_
  refine s0_413 ?_
  refine s0_414 ?_
  refine s0_415 rfl (own_r93 a b c pd w) rfl ?_
  refine s0_418 ?_
  refine s0_420c (fun h => absurd h (by decide)) (fun _ => ?_)
  refine s0_424 ?_
  refine s0_425 ?_
  exact s0_429 rfl
set_option maxHeartbeats 4000000 in
theorem own_c0kdd (a b c pd : Int32) (w : Int64) (flags : Int32) (ha : ¬ w < a.toInt64 - pd.toInt64) (hb : w < b.toInt64 - pd.toInt64) (hc : w < c.toInt64 - pd.toInt64) : W0 room_1 57 [.val (.int a), .val (.int b), .val (.int c), .val (.int pd), .val (.long w), .second, .val (.int flags), .val (.int 1), .val (.int 1), .val (.int 1), .val (.int 0), .unset, .unset, .unset, .unset, .unset, .unset, .unset, .unset, .unset, .unset, .unset, .unset, .unset, .unset, .unset] [] [] (fun r _ => r = some (.int 1)) := by
  refine s0_57 ?_
  refine s0_58 0 2 (by decide) rfl rfl ?_
  refine s0_60 rfl ?_
  refine s0_61 ?_
  refine s0_62 ?_
  refine s0_63 0 rfl (by decide) rfl ?_
  refine s0_64 rfl ?_
  refine s0_65 ?_
  refine s0_66 ?_
  refine s0_67 1 rfl (by decide) rfl ?_
  refine s0_68 rfl ?_
  refine s0_70 ?_
  refine s0_71 1 2 (by decide) rfl rfl ?_
  refine s0_73 rfl ?_
  refine s0_74 ?_
  refine s0_75 ?_
  refine s0_76 0 rfl (by decide) rfl ?_
  refine s0_77 rfl ?_
  refine s0_78 ?_
  refine s0_79 ?_
  refine s0_80 1 rfl (by decide) rfl ?_
  refine s0_81 rfl ?_
  refine s0_83 2 rfl rfl ?_
  refine s0_86 rfl ?_
  refine s0_87 ?_
  refine s0_89 ?_
  refine s0_91 ?_
  refine s0_93 (own_r2 a b c pd w) rfl ?_
  refine s0_96 rfl ?_
  refine s0_98 ?_
  refine s0_100 (fun h => absurd h (by decide)) (fun _ => ?_)
  refine s0_103 ?_
  refine s0_105 ?_
  refine s0_106 rfl (own_r8 a b c pd w) rfl ?_
  refine s0_109 ?_
  refine s0_111 ?_
  refine s0_112 ?_
  refine s0_113 ?_
  refine s0_114 rfl (own_r10 a b c pd w) rfl ?_
  refine s0_117 ?_
  refine s0_119 (fun h => absurd h (by decide)) (fun _ => ?_)
  refine s0_122 ?_
  refine s0_124 ?_
  refine s0_125 rfl (own_r56 a b c pd w) rfl ?_
  refine s0_128 ?_
  refine s0_130 ?_
  refine s0_131 ?_
  refine s0_132 ?_
  refine s0_133 rfl (own_r58 a b c pd w) rfl ?_
  refine s0_136 ?_
  refine s0_138 (fun h => absurd h (by decide)) (fun _ => ?_)
  refine s0_141 ?_
  refine s0_143 ?_
  refine s0_144 rfl (own_r74 a b c pd w) rfl ?_
  refine s0_147 ?_
  refine s0_149 ?_
  refine s0_150 ?_
  refine s0_151 ?_
  refine s0_152 rfl (own_r76 a b c pd w) rfl ?_
  refine s0_155 ?_
  refine s0_157 (fun _ => ?_) (fun h => absurd h (by decide))
  refine s0_164 ?_
  refine s0_165 rfl ?_
  refine s0_167 ?_
  refine s0_169 ?_
  refine s0_171 ?_
  refine s0_172 rfl (own_r94 a b c pd w ha hb hc) rfl ?_
  refine s0_175 rfl ?_
  refine s0_177 ?_
  refine s0_179 (fun h => absurd h (by decide)) (fun _ => ?_)
  refine s0_182 ?_
  refine s0_183 ?_
  refine s0_184 ?_
  refine s0_186 (own_fit0 _ _ _ _ hc) rfl ?_
  refine s0_189 (fun _ => ?_) (fun h => absurd h (by decide))
  refine s0_196 ?_
  refine s0_197 rfl ?_
  refine s0_199 ?_
  refine s0_201 (fun h => absurd h (by decide)) (fun _ => ?_)
  refine s0_204 ?_
  refine s0_205 ?_
  refine s0_206 ?_
  refine s0_208 (own_fit1 _ _ _ _ ha) rfl ?_
  refine s0_211 (fun h => absurd h (by decide)) (fun _ => ?_)
  refine s0_214 ?_
  refine s0_215 ?_
  refine s0_219 rfl ?_
  refine s0_221 ?_
  refine s0_223 (fun h => absurd h (by decide)) (fun _ => ?_)
  refine s0_226 ?_
  refine s0_227 ?_
  refine s0_228 ?_
  refine s0_230 (own_fit0 _ _ _ _ hb) rfl ?_
  refine s0_233 (fun _ => ?_) (fun h => absurd h (by decide))
  refine s0_240 ?_
  refine s0_241 rfl ?_
  refine s0_243 ?_
  refine s0_245 (fun _ => ?_) (fun h => absurd h (by decide))
  refine s0_264 ?_
  refine s0_266 (fun h => absurd h (by decide)) (fun _ => ?_)
  refine s0_269 ?_
  refine s0_270 ?_
  refine s0_271 ?_
  refine s0_277 rfl ?_
  refine s0_279 ?_
  refine s0_281 (fun h => absurd h (by decide)) (fun _ => ?_)
  refine s0_284 ?_
  refine s0_286 (fun h => absurd h (by decide)) (fun _ => ?_)
  refine s0_289 ?_
  refine s0_290 ?_
  refine s0_291 ?_
  refine s0_313 rfl ?_
  refine s0_315 ?_
  refine s0_317 (fun h => absurd h (by decide)) (fun _ => ?_)
  refine s0_320 ?_
  refine s0_322 (fun _ => ?_) (fun h => absurd h (by decide))
  refine s0_330 ?_
  refine s0_333 ?_
  refine s0_349 rfl ?_
  refine s0_351 ?_
  refine s0_353 (fun _ => ?_) (fun h => absurd h (by decide))
  refine s0_361 ?_
  refine s0_363 (fun _ => ?_) (fun h => absurd h (by decide))
  refine s0_371 ?_
  refine s0_372 ?_
  refine s0_376 rfl ?_
  refine s0_378 ?_
  refine s0_380 ?_
  refine s0_382 (fun h => absurd h (by decide)) (fun _ => ?_)
  refine s0_385 ?_
  refine s0_387 ?_
  refine s0_388 ?_
  refine s0_389 rfl (own_r91 a b c pd w) rfl ?_
  refine s0_392 ?_
  refine s0_394c (fun h => absurd rfl h) (fun _ => ?_)
  refine s0_398 ?_
  refine s0_400 ?_
  refine s0_401 ?_
  refine s0_402 rfl (own_r92 a b c pd w) rfl ?_
  refine s0_405 ?_
  refine s0_407c (fun h => absurd rfl h) (fun _ => ?_)
  refine s0_411 ?_
  refine s0_413 ?_
  refine s0_414 ?_
  refine s0_415 rfl (own_r93 a b c pd w) rfl ?_
  refine s0_418 ?_
  refine s0_420c (fun h => absurd h (by decide)) (fun _ => ?_)
  refine s0_424 ?_
  refine s0_425 ?_
  exact s0_429 rfl
set_option maxHeartbeats 4000000 in
theorem own_c0d00 (a b c pd : Int32) (w : Int64) (flags : Int32) (ha : w < a.toInt64 - pd.toInt64) : W0 room_1 57 [.val (.int a), .val (.int b), .val (.int c), .val (.int pd), .val (.long w), .second, .val (.int flags), .val (.int 1), .val (.int 0), .val (.int 0), .val (.int 0), .unset, .unset, .unset, .unset, .unset, .unset, .unset, .unset, .unset, .unset, .unset, .unset, .unset, .unset, .unset] [] [] (fun r _ => r = some (.int 1)) := by
  refine s0_57 ?_
  refine s0_58 0 2 (by decide) rfl rfl ?_
  refine s0_60 rfl ?_
  refine s0_61 ?_
  refine s0_62 ?_
  refine s0_63 0 rfl (by decide) rfl ?_
  refine s0_64 rfl ?_
  refine s0_65 ?_
  refine s0_66 ?_
  refine s0_67 1 rfl (by decide) rfl ?_
  refine s0_68 rfl ?_
  refine s0_70 ?_
  refine s0_71 1 2 (by decide) rfl rfl ?_
  refine s0_73 rfl ?_
  refine s0_74 ?_
  refine s0_75 ?_
  refine s0_76 0 rfl (by decide) rfl ?_
  refine s0_77 rfl ?_
  refine s0_78 ?_
  refine s0_79 ?_
  refine s0_80 1 rfl (by decide) rfl ?_
  refine s0_81 rfl ?_
  refine s0_83 2 rfl rfl ?_
  refine s0_86 rfl ?_
  refine s0_87 ?_
  refine s0_89 ?_
  refine s0_91 ?_
  refine s0_93 (own_r2 a b c pd w) rfl ?_
  refine s0_96 rfl ?_
  refine s0_98 ?_
  refine s0_100 (fun _ => ?_) (fun h => absurd h (by decide))
  refine s0_117 ?_
  refine s0_119 (fun h => absurd h (by decide)) (fun _ => ?_)
  refine s0_122 ?_
  refine s0_124 ?_
  refine s0_125 rfl (own_r48 a b c pd w) rfl ?_
  refine s0_128 ?_
  refine s0_130 ?_
  refine s0_131 ?_
  refine s0_132 ?_
  refine s0_133 rfl (own_r50 a b c pd w) rfl ?_
  refine s0_136 ?_
  refine s0_138 (fun _ => ?_) (fun h => absurd h (by decide))
  refine s0_155 ?_
  refine s0_157 (fun _ => ?_) (fun h => absurd h (by decide))
  refine s0_164 ?_
  refine s0_165 rfl ?_
  refine s0_167 ?_
  refine s0_169 ?_
  refine s0_171 ?_
  refine s0_172 rfl (own_r96 a b c pd w ha) rfl ?_
  refine s0_175 rfl ?_
  refine s0_177 ?_
  refine s0_179 (fun _ => ?_) (fun h => absurd h (by decide))
  refine s0_196 ?_
  refine s0_197 rfl ?_
  refine s0_199 ?_
  refine s0_201 (fun h => absurd h (by decide)) (fun _ => ?_)
  refine s0_204 ?_
  refine s0_205 ?_
  refine s0_206 ?_
  refine s0_208 (own_fit0 _ _ _ _ ha) rfl ?_
  refine s0_211 (fun _ => ?_) (fun h => absurd h (by decide))
  refine s0_218 ?_
  refine s0_219 rfl ?_
  refine s0_221 ?_
  refine s0_223 (fun _ => ?_) (fun h => absurd h (by decide))
  refine s0_240 ?_
  refine s0_241 rfl ?_
  refine s0_243 ?_
  refine s0_245 (fun _ => ?_) (fun h => absurd h (by decide))
  refine s0_264 ?_
  refine s0_266 (fun _ => ?_) (fun h => absurd h (by decide))
  refine s0_274 ?_
  refine s0_277 rfl ?_
  refine s0_279 ?_
  refine s0_281 (fun h => absurd h (by decide)) (fun _ => ?_)
  refine s0_284 ?_
  refine s0_286 (fun _ => ?_) (fun h => absurd h (by decide))
  refine s0_294 ?_
  refine s0_297 ?_
  refine s0_313 rfl ?_
  refine s0_315 ?_
  refine s0_317 (fun h => absurd h (by decide)) (fun _ => ?_)
  refine s0_320 ?_
  refine s0_322 (fun _ => ?_) (fun h => absurd h (by decide))
  refine s0_330 ?_
  refine s0_333 ?_
  refine s0_349 rfl ?_
  refine s0_351 ?_
  refine s0_353 (fun _ => ?_) (fun h => absurd h (by decide))
  refine s0_361 ?_
  refine s0_363 (fun h => absurd h (by decide)) (fun _ => ?_)
  refine s0_366 ?_
  refine s0_368 (fun _ => ?_) (fun h => absurd h (by decide))
  refine s0_375 ?_
  refine s0_376 rfl ?_
  refine s0_378 ?_
  refine s0_380 ?_
  refine s0_382 (fun h => absurd h (by decide)) (fun _ => ?_)
  refine s0_385 ?_
  refine s0_387 ?_
  refine s0_388 ?_
  refine s0_389 rfl (own_r98 a b c pd w) rfl ?_
  refine s0_392 ?_
  refine s0_394c (fun h => absurd h (by decide)) (fun _ => ?_)
  refine s0_398 ?_
  refine s0_400 ?_
  refine s0_401 ?_
  refine s0_402 rfl (own_r99 a b c pd w) rfl ?_
  refine s0_405 ?_
  refine s0_407c (fun h => absurd h (by decide)) (fun _ => ?_)
  refine s0_411 ?_
  refine s0_413 ?_
  refine s0_414 ?_
  refine s0_415 rfl (own_r100 a b c pd w) rfl ?_
  refine s0_418 ?_
  refine s0_420c (fun h => absurd h (by decide)) (fun _ => ?_)
  refine s0_424 ?_
  refine s0_425 ?_
  exact s0_429 rfl
set_option maxHeartbeats 4000000 in
theorem own_c0d0k (a b c pd : Int32) (w : Int64) (flags : Int32) (ha : w < a.toInt64 - pd.toInt64) (hc : ¬ w < c.toInt64 - pd.toInt64) : W0 room_1 57 [.val (.int a), .val (.int b), .val (.int c), .val (.int pd), .val (.long w), .second, .val (.int flags), .val (.int 1), .val (.int 0), .val (.int 1), .val (.int 0), .unset, .unset, .unset, .unset, .unset, .unset, .unset, .unset, .unset, .unset, .unset, .unset, .unset, .unset, .unset] [] [] (fun r _ => r = some (.int 1)) := by
  refine s0_57 ?_
  refine s0_58 0 2 (by decide) rfl rfl ?_
  refine s0_60 rfl ?_
  refine s0_61 ?_
  refine s0_62 ?_
  refine s0_63 0 rfl (by decide) rfl ?_
  refine s0_64 rfl ?_
  refine s0_65 ?_
  refine s0_66 ?_
  refine s0_67 1 rfl (by decide) rfl ?_
  refine s0_68 rfl ?_
  refine s0_70 ?_
  refine s0_71 1 2 (by decide) rfl rfl ?_
  refine s0_73 rfl ?_
  refine s0_74 ?_
  refine s0_75 ?_
  refine s0_76 0 rfl (by decide) rfl ?_
  refine s0_77 rfl ?_
  refine s0_78 ?_
  refine s0_79 ?_
  refine s0_80 1 rfl (by decide) rfl ?_
  refine s0_81 rfl ?_
  refine s0_83 2 rfl rfl ?_
  refine s0_86 rfl ?_
  refine s0_87 ?_
  refine s0_89 ?_
  refine s0_91 ?_
  refine s0_93 (own_r2 a b c pd w) rfl ?_
  refine s0_96 rfl ?_
  refine s0_98 ?_
  refine s0_100 (fun h => absurd h (by decide)) (fun _ => ?_)
  refine s0_103 ?_
  refine s0_105 ?_
  refine s0_106 rfl (own_r8 a b c pd w) rfl ?_
  refine s0_109 ?_
  refine s0_111 ?_
  refine s0_112 ?_
  refine s0_113 ?_
  refine s0_114 rfl (own_r10 a b c pd w) rfl ?_
  refine s0_117 ?_
  refine s0_119 (fun h => absurd h (by decide)) (fun _ => ?_)
  refine s0_122 ?_
  refine s0_124 ?_
  refine s0_125 rfl (own_r56 a b c pd w) rfl ?_
  refine s0_128 ?_
  refine s0_130 ?_
  refine s0_131 ?_
  refine s0_132 ?_
  refine s0_133 rfl (own_r58 a b c pd w) rfl ?_
  refine s0_136 ?_
  refine s0_138 (fun _ => ?_) (fun h => absurd h (by decide))
  refine s0_155 ?_
  refine s0_157 (fun _ => ?_) (fun h => absurd h (by decide))
  refine s0_164 ?_
  refine s0_165 rfl ?_
  refine s0_167 ?_
  refine s0_169 ?_
  refine s0_171 ?_
  refine s0_172 rfl (own_r101 a b c pd w ha hc) rfl ?_
  refine s0_175 rfl ?_
  refine s0_177 ?_
  refine s0_179 (fun h => absurd h (by decide)) (fun _ => ?_)
  refine s0_182 ?_
  refine s0_183 ?_
  refine s0_184 ?_
  refine s0_186 (own_fit1 _ _ _ _ hc) rfl ?_
  refine s0_189 (fun h => absurd h (by decide)) (fun _ => ?_)
  refine s0_192 ?_
  refine s0_193 ?_
  refine s0_197 rfl ?_
  refine s0_199 ?_
  refine s0_201 (fun h => absurd h (by decide)) (fun _ => ?_)
  refine s0_204 ?_
  refine s0_205 ?_
  refine s0_206 ?_
  refine s0_208 (own_fit0 _ _ _ _ ha) rfl ?_
  refine s0_211 (fun _ => ?_) (fun h => absurd h (by decide))
  refine s0_218 ?_
  refine s0_219 rfl ?_
  refine s0_221 ?_
  refine s0_223 (fun _ => ?_) (fun h => absurd h (by decide))
  refine s0_240 ?_
  refine s0_241 rfl ?_
  refine s0_243 ?_
  refine s0_245 (fun _ => ?_) (fun h => absurd h (by decide))
  refine s0_264 ?_
  refine s0_266 (fun h => absurd h (by decide)) (fun _ => ?_)
  refine s0_269 ?_
  refine s0_270 ?_
  refine s0_271 ?_
  refine s0_277 rfl ?_
  refine s0_279 ?_
  refine s0_281 (fun h => absurd h (by decide)) (fun _ => ?_)
  refine s0_284 ?_
  refine s0_286 (fun _ => ?_) (fun h => absurd h (by decide))
  refine s0_294 ?_
  refine s0_297 ?_
  refine s0_313 rfl ?_
  refine s0_315 ?_
  refine s0_317 (fun h => absurd h (by decide)) (fun _ => ?_)
  refine s0_320 ?_
  refine s0_322 (fun _ => ?_) (fun h => absurd h (by decide))
  refine s0_330 ?_
  refine s0_333 ?_
  refine s0_349 rfl ?_
  refine s0_351 ?_
  refine s0_353 (fun _ => ?_) (fun h => absurd h (by decide))
  refine s0_361 ?_
  refine s0_363 (fun h => absurd h (by decide)) (fun _ => ?_)
  refine s0_366 ?_
  refine s0_368 (fun _ => ?_) (fun h => absurd h (by decide))
  refine s0_375 ?_
  refine s0_376 rfl ?_
  refine s0_378 ?_
  refine s0_380 ?_
  refine s0_382 (fun h => absurd h (by decide)) (fun _ => ?_)
  refine s0_385 ?_
  refine s0_387 ?_
  refine s0_388 ?_
  refine s0_389 rfl (own_r103 a b c pd w) rfl ?_
  refine s0_392 ?_
  refine s0_394c (fun h => absurd rfl h) (fun _ => ?_)
  refine s0_398 ?_
  refine s0_400 ?_
  refine s0_401 ?_
  refine s0_402 rfl (own_r104 a b c pd w) rfl ?_
  refine s0_405 ?_
  refine s0_407c (fun h => absurd h (by decide)) (fun _ => ?_)
  refine s0_411 ?_
  refine s0_413 ?_
  refine s0_414 ?_
  refine s0_415 rfl (own_r105 a b c pd w) rfl ?_
  refine s0_418 ?_
  refine s0_420c (fun h => absurd h (by decide)) (fun _ => ?_)
  refine s0_424 ?_
  refine s0_425 ?_
  exact s0_429 rfl
set_option maxHeartbeats 4000000 in
theorem own_c0d0d (a b c pd : Int32) (w : Int64) (flags : Int32) (ha : w < a.toInt64 - pd.toInt64) (hc : w < c.toInt64 - pd.toInt64) : W0 room_1 57 [.val (.int a), .val (.int b), .val (.int c), .val (.int pd), .val (.long w), .second, .val (.int flags), .val (.int 1), .val (.int 0), .val (.int 1), .val (.int 0), .unset, .unset, .unset, .unset, .unset, .unset, .unset, .unset, .unset, .unset, .unset, .unset, .unset, .unset, .unset] [] [] (fun r _ => r = some (.int 1)) := by
  refine s0_57 ?_
  refine s0_58 0 2 (by decide) rfl rfl ?_
  refine s0_60 rfl ?_
  refine s0_61 ?_
  refine s0_62 ?_
  refine s0_63 0 rfl (by decide) rfl ?_
  refine s0_64 rfl ?_
  refine s0_65 ?_
  refine s0_66 ?_
  refine s0_67 1 rfl (by decide) rfl ?_
  refine s0_68 rfl ?_
  refine s0_70 ?_
  refine s0_71 1 2 (by decide) rfl rfl ?_
  refine s0_73 rfl ?_
  refine s0_74 ?_
  refine s0_75 ?_
  refine s0_76 0 rfl (by decide) rfl ?_
  refine s0_77 rfl ?_
  refine s0_78 ?_
  refine s0_79 ?_
  refine s0_80 1 rfl (by decide) rfl ?_
  refine s0_81 rfl ?_
  refine s0_83 2 rfl rfl ?_
  refine s0_86 rfl ?_
  refine s0_87 ?_
  refine s0_89 ?_
  refine s0_91 ?_
  refine s0_93 (own_r2 a b c pd w) rfl ?_
  refine s0_96 rfl ?_
  refine s0_98 ?_
  refine s0_100 (fun h => absurd h (by decide)) (fun _ => ?_)
  refine s0_103 ?_
  refine s0_105 ?_
  refine s0_106 rfl (own_r8 a b c pd w) rfl ?_
  refine s0_109 ?_
  refine s0_111 ?_
  refine s0_112 ?_
  refine s0_113 ?_
  refine s0_114 rfl (own_r10 a b c pd w) rfl ?_
  refine s0_117 ?_
  refine s0_119 (fun h => absurd h (by decide)) (fun _ => ?_)
  refine s0_122 ?_
  refine s0_124 ?_
  refine s0_125 rfl (own_r56 a b c pd w) rfl ?_
  refine s0_128 ?_
  refine s0_130 ?_
  refine s0_131 ?_
  refine s0_132 ?_
  refine s0_133 rfl (own_r58 a b c pd w) rfl ?_
  refine s0_136 ?_
  refine s0_138 (fun _ => ?_) (fun h => absurd h (by decide))
  refine s0_155 ?_
  refine s0_157 (fun _ => ?_) (fun h => absurd h (by decide))
  refine s0_164 ?_
  refine s0_165 rfl ?_
  refine s0_167 ?_
  refine s0_169 ?_
  refine s0_171 ?_
  refine s0_172 rfl (own_r106 a b c pd w ha hc) rfl ?_
  refine s0_175 rfl ?_
  refine s0_177 ?_
  refine s0_179 (fun h => absurd h (by decide)) (fun _ => ?_)
  refine s0_182 ?_
  refine s0_183 ?_
  refine s0_184 ?_
  refine s0_186 (own_fit0 _ _ _ _ hc) rfl ?_
  refine s0_189 (fun _ => ?_) (fun h => absurd h (by decide))
  refine s0_196 ?_
  refine s0_197 rfl ?_
  refine s0_199 ?_
  refine s0_201 (fun h => absurd h (by decide)) (fun _ => ?_)
  refine s0_204 ?_
  refine s0_205 ?_
  refine s0_206 ?_
  refine s0_208 (own_fit0 _ _ _ _ ha) rfl ?_
  refine s0_211 (fun _ => ?_) (fun h => absurd h (by decide))
  refine s0_218 ?_
  refine s0_219 rfl ?_
  refine s0_221 ?_
  refine s0_223 (fun _ => ?_) (fun h => absurd h (by decide))
  refine s0_240 ?_
  refine s0_241 rfl ?_
  refine s0_243 ?_
  refine s0_245 (fun _ => ?_) (fun h => absurd h (by decide))
  refine s0_264 ?_
  refine s0_266 (fun h => absurd h (by decide)) (fun _ => ?_)
  refine s0_269 ?_
  refine s0_270 ?_
  refine s0_271 ?_
  refine s0_277 rfl ?_
  refine s0_279 ?_
  refine s0_281 (fun h => absurd h (by decide)) (fun _ => ?_)
  refine s0_284 ?_
  refine s0_286 (fun _ => ?_) (fun h => absurd h (by decide))
  refine s0_294 ?_
  refine s0_297 ?_
  refine s0_313 rfl ?_
  refine s0_315 ?_
  refine s0_317 (fun h => absurd h (by decide)) (fun _ => ?_)
  refine s0_320 ?_
  refine s0_322 (fun _ => ?_) (fun h => absurd h (by decide))
  refine s0_330 ?_
  refine s0_333 ?_
  refine s0_349 rfl ?_
  refine s0_351 ?_
  refine s0_353 (fun _ => ?_) (fun h => absurd h (by decide))
  refine s0_361 ?_
  refine s0_363 (fun h => absurd h (by decide)) (fun _ => ?_)
  refine s0_366 ?_
  refine s0_368 (fun _ => ?_) (fun h => absurd h (by decide))
  refine s0_375 ?_
  refine s0_376 rfl ?_
  refine s0_378 ?_
  refine s0_380 ?_
  refine s0_382 (fun h => absurd h (by decide)) (fun _ => ?_)
  refine s0_385 ?_
  refine s0_387 ?_
  refine s0_388 ?_
  refine s0_389 rfl (own_r103 a b c pd w) rfl ?_
  refine s0_392 ?_
  refine s0_394c (fun h => absurd rfl h) (fun _ => ?_)
  refine s0_398 ?_
  refine s0_400 ?_
  refine s0_401 ?_
  refine s0_402 rfl (own_r104 a b c pd w) rfl ?_
  refine s0_405 ?_
  refine s0_407c (fun h => absurd h (by decide)) (fun _ => ?_)
  refine s0_411 ?_
  refine s0_413 ?_
  refine s0_414 ?_
  refine s0_415 rfl (own_r105 a b c pd w) rfl ?_
  refine s0_418 ?_
  refine s0_420c (fun h => absurd h (by decide)) (fun _ => ?_)
  refine s0_424 ?_
  refine s0_425 ?_
  exact s0_429 rfl
set_option maxHeartbeats 4000000 in
theorem own_c0dk0 (a b c pd : Int32) (w : Int64) (flags : Int32) (ha : w < a.toInt64 - pd.toInt64) (hb : ¬ w < b.toInt64 - pd.toInt64) : W0 room_1 57 [.val (.int a), .val (.int b), .val (.int c), .val (.int pd), .val (.long w), .second, .val (.int flags), .val (.int 1), .val (.int 1), .val (.int 0), .val (.int 0), .unset, .unset, .unset, .unset, .unset, .unset, .unset, .unset, .unset, .unset, .unset, .unset, .unset, .unset, .unset] [] [] (fun r _ => r = some (.int 1)) := by
  refine s0_57 ?_
  refine s0_58 0 2 (by decide) rfl rfl ?_
  refine s0_60 rfl ?_
  refine s0_61 ?_
  refine s0_62 ?_
  refine s0_63 0 rfl (by decide) rfl ?_
  refine s0_64 rfl ?_
  refine s0_65 ?_
  refine s0_66 ?_
  refine s0_67 1 rfl (by decide) rfl ?_
  refine s0_68 rfl ?_
  refine s0_70 ?_
  refine s0_71 1 2 (by decide) rfl rfl ?_
  refine s0_73 rfl ?_
  refine s0_74 ?_
  refine s0_75 ?_
  refine s0_76 0 rfl (by decide) rfl ?_
  refine s0_77 rfl ?_
  refine s0_78 ?_
  refine s0_79 ?_
  refine s0_80 1 rfl (by decide) rfl ?_
  refine s0_81 rfl ?_
  refine s0_83 2 rfl rfl ?_
  refine s0_86 rfl ?_
  refine s0_87 ?_
  refine s0_89 ?_
  refine s0_91 ?_
  refine s0_93 (own_r2 a b c pd w) rfl ?_
  refine s0_96 rfl ?_
  refine s0_98 ?_
  refine s0_100 (fun _ => ?_) (fun h => absurd h (by decide))
  refine s0_117 ?_
  refine s0_119 (fun h => absurd h (by decide)) (fun _ => ?_)
  refine s0_122 ?_
  refine s0_124 ?_
  refine s0_125 rfl (own_r48 a b c pd w) rfl ?_
  refine s0_128 ?_
  refine s0_130 ?_
  refine s0_131 ?_
  refine s0_132 ?_
  refine s0_133 rfl (own_r50 a b c pd w) rfl ?_
  refine s0_136 ?_
  refine s0_138 (fun h => absurd h (by decide)) (fun _ => ?_)
  refine s0_141 ?_
  refine s0_143 ?_
  refine s0_144 rfl (own_r66 a b c pd w) rfl ?_
  refine s0_147 ?_
  refine s0_149 ?_
  refine s0_150 ?_
  refine s0_151 ?_
  refine s0_152 rfl (own_r68 a b c pd w) rfl ?_
  refine s0_155 ?_
  refine s0_157 (fun _ => ?_) (fun h => absurd h (by decide))
  refine s0_164 ?_
  refine s0_165 rfl ?_
  refine s0_167 ?_
  refine s0_169 ?_
  refine s0_171 ?_
  refine s0_172 rfl (own_r108 a b c pd w ha hb) rfl ?_
  refine s0_175 rfl ?_
  refine s0_177 ?_
  refine s0_179 (fun _ => ?_) (fun h => absurd h (by decide))
  refine s0_196 ?_
  refine s0_197 rfl ?_
  refine s0_199 ?_
  refine s0_201 (fun h => absurd h (by decide)) (fun _ => ?_)
  refine s0_204 ?_
  refine s0_205 ?_
  refine s0_206 ?_
  refine s0_208 (own_fit0 _ _ _ _ ha) rfl ?_
  refine s0_211 (fun _ => ?_) (fun h => absurd h (by decide))
  refine s0_218 ?_
  refine s0_219 rfl ?_
  refine s0_221 ?_
  refine s0_223 (fun h => absurd h (by decide)) (fun _ => ?_)
  refine s0_226 ?_
  refine s0_227 ?_
  refine s0_228 ?_
  refine s0_230 (own_fit1 _ _ _ _ hb) rfl ?_
  refine s0_233 (fun h => absurd h (by decide)) (fun _ => ?_)
  refine s0_236 ?_
  refine s0_237 ?_
  refine s0_241 rfl ?_
  refine s0_243 ?_
  refine s0_245 (fun _ => ?_) (fun h => absurd h (by decide))
  refine s0_264 ?_
  refine s0_266 (fun _ => ?_) (fun h => absurd h (by decide))
  refine s0_274 ?_
  refine s0_277 rfl ?_
  refine s0_279 ?_
  refine s0_281 (fun h => absurd h (by decide)) (fun _ => ?_)
  refine s0_284 ?_
  refine s0_286 (fun _ => ?_) (fun h => absurd h (by decide))
  refine s0_294 ?_
  refine s0_297 ?_
  refine s0_313 rfl ?_
  refine s0_315 ?_
  refine s0_317 (fun h => absurd h (by decide)) (fun _ => ?_)
  refine s0_320 ?_
  refine s0_322 (fun h => absurd h (by decide)) (fun _ => ?_)
  refine s0_325 ?_
  refine s0_326 ?_
  refine s0_327 ?_
  refine s0_349 rfl ?_
  refine s0_351 ?_
  refine s0_353 (fun _ => ?_) (fun h => absurd h (by decide))
  refine s0_361 ?_
  refine s0_363 (fun h => absurd h (by decide)) (fun _ => ?_)
  refine s0_366 ?_
  refine s0_368 (fun h => absurd h (by decide)) (fun _ => ?_)
  refine s0_371 ?_
  refine s0_372 ?_
  refine s0_376 rfl ?_
  refine s0_378 ?_
  refine s0_380 ?_
  refine s0_382 (fun h => absurd h (by decide)) (fun _ => ?_)
  refine s0_385 ?_
  refine s0_387 ?_
  refine s0_388 ?_
  refine s0_389 rfl (own_r23 a b c pd w) rfl ?_
  refine s0_392 ?_
  refine s0_394c (fun h => absurd h (by decide)) (fun _ => ?_)
  refine s0_398 ?_
  refine s0_400 ?_
  refine s0_401 ?_
  refine s0_402 rfl (own_r24 a b c pd w) rfl ?_
  refine s0_405 ?_
  refine s0_407c (fun h => absurd h (by decide)) (fun _ => ?_)
  refine s0_411 ?_
  refine s0_413 ?_
  refine s0_414 ?_
  refine s0_415 rfl (own_r25 a b c pd w) rfl ?_
  refine s0_418 ?_
  refine s0_420c (fun h => absurd rfl h) (fun _ => ?_)
  refine s0_424 ?_
  refine s0_425 ?_
  exact s0_429 rfl
set_option maxHeartbeats 4000000 in
theorem own_c0dkk (a b c pd : Int32) (w : Int64) (flags : Int32) (ha : w < a.toInt64 - pd.toInt64) (hb : ¬ w < b.toInt64 - pd.toInt64) (hc : ¬ w < c.toInt64 - pd.toInt64) : W0 room_1 57 [.val (.int a), .val (.int b), .val (.int c), .val (.int pd), .val (.long w), .second, .val (.int flags), .val (.int 1), .val (.int 1), .val (.int 1), .val (.int 0), .unset, .unset, .unset, .unset, .unset, .unset, .unset, .unset, .unset, .unset, .unset, .unset, .unset, .unset, .unset] [] [] (fun r _ => r = some (.int 1)) := by
  refine s0_57 ?_
  refine s0_58 0 2 (by decide) rfl rfl ?_
  refine s0_60 rfl ?_
  refine s0_61 ?_
  refine s0_62 ?_
  refine s0_63 0 rfl (by decide) rfl ?_
  refine s0_64 rfl ?_
  refine s0_65 ?_
  refine s0_66 ?_
  refine s0_67 1 rfl (by decide) rfl ?_
  refine s0_68 rfl ?_
  refine s0_70 ?_
  refine s0_71 1 2 (by decide) rfl rfl ?_
  refine s0_73 rfl ?_
  refine s0_74 ?_
  refine s0_75 ?_
  refine s0_76 0 rfl (by decide) rfl ?_
  refine s0_77 rfl ?_
  refine s0_78 ?_
  refine s0_79 ?_
  refine s0_80 1 rfl (by decide) rfl ?_
  refine s0_81 rfl ?_
  refine s0_83 2 rfl rfl ?_
  refine s0_86 rfl ?_
  refine s0_87 ?_
  refine s0_89 ?_
  refine s0_91 ?_
  refine s0_93 (own_r2 a b c pd w) rfl ?_
  refine s0_96 rfl ?_
  refine s0_98 ?_
  refine s0_100 (fun h => absurd h (by decide)) (fun _ => ?_)
  refine s0_103 ?_
  refine s0_105 ?_
  refine s0_106 rfl (own_r8 a b c pd w) rfl ?_
  refine s0_109 ?_
  refine s0_111 ?_
  refine s0_112 ?_
  refine s0_113 ?_
  refine s0_114 rfl (own_r10 a b c pd w) rfl ?_
  refine s0_117 ?_
  refine s0_119 (fun h => absurd h (by decide)) (fun _ => ?_)
  refine s0_122 ?_
  refine s0_124 ?_
  refine s0_125 rfl (own_r56 a b c pd w) rfl ?_
  refine s0_128 ?_
  refine s0_130 ?_
  refine s0_131 ?_
  refine s0_132 ?_
  refine s0_133 rfl (own_r58 a b c pd w) rfl ?_
  refine s0_136 ?_
  refine s0_138 (fun h => absurd h (by decide)) (fun _ => ?_)
  refine s0_141 ?_
  refine s0_143 ?_
  refine s0_144 rfl (own_r74 a b c pd w) rfl ?_
  refine s0_147 ?_
  refine s0_149 ?_
  refine s0_150 ?_
  refine s0_151 ?_
  refine s0_152 rfl (own_r76 a b c pd w) rfl ?_
  refine s0_155 ?_
  refine s0_157 (fun _ => ?_) (fun h => absurd h (by decide))
  refine s0_164 ?_
  refine s0_165 rfl ?_
  refine s0_167 ?_
  refine s0_169 ?_
  refine s0_171 ?_
  refine s0_172 rfl (own_r110 a b c pd w ha hb hc) rfl ?_
  refine s0_175 rfl ?_
  refine s0_177 ?_
  refine s0_179 (fun h => absurd h (by decide)) (fun _ => ?_)
  refine s0_182 ?_
  refine s0_183 ?_
  refine s0_184 ?_
  refine s0_186 (own_fit1 _ _ _ _ hc) rfl ?_
  refine s0_189 (fun h => absurd h (by decide)) (fun _ => ?_)
  refine s0_192 ?_
  refine s0_193 ?_
  refine s0_197 rfl ?_
  refine s0_199 ?_
  refine s0_201 (fun h => absurd h (by decide)) (fun _ => ?_)
  refine s0_204 ?_
  refine s0_205 ?_
  refine s0_206 ?_
  refine s0_208 (own_fit0 _ _ _ _ ha) rfl ?_
  refine s0_211 (fun _ => ?_) (fun h => absurd h (by decide))
  refine s0_218 ?_
  refine s0_219 rfl ?_
  refine s0_221 ?_
  refine s0_223 (fun h => absurd h (by decide)) (fun _ => ?_)
  refine s0_226 ?_
  refine s0_227 ?_
  refine s0_228 ?_
  refine s0_230 (own_fit1 _ _ _ _ hb) rfl ?_
  refine s0_233 (fun h => absurd h (by decide)) (fun _ => ?_)
  refine s0_236 ?_
  refine s0_237 ?_
  refine s0_241 rfl ?_
  refine s0_243 ?_
  refine s0_245 (fun _ => ?_) (fun h => absurd h (by decide))
  refine s0_264 ?_
  refine s0_266 (fun h => absurd h (by decide)) (fun _ => ?_)
  refine s0_269 ?_
  refine s0_270 ?_
  refine s0_271 ?_
  refine s0_277 rfl ?_
  refine s0_279 ?_
  refine s0_281 (fun h => absurd h (by decide)) (fun _ => ?_)
  refine s0_284 ?_
  refine s0_286 (fun _ => ?_) (fun h => absurd h (by decide))
  refine s0_294 ?_
  refine s0_297 ?_
  refine s0_313 rfl ?_
  refine s0_315 ?_
  refine s0_317 (fun h => absurd h (by decide)) (fun _ => ?_)
  refine s0_320 ?_
  refine s0_322 (fun h => absurd h (by decide)) (fun _ => ?_)
  refine s0_325 ?_
  refine s0_326 ?_
  refine s0_327 ?_
  refine s0_349 rfl ?_
  refine s0_351 ?_
  refine s0_353 (fun _ => ?_) (fun h => absurd h (by decide))
  refine s0_361 ?_
  refine s0_363 (fun h => absurd h (by decide)) (fun _ => ?_)
  refine s0_366 ?_
  refine s0_368 (fun h => absurd h (by decide)) (fun _ => ?_)
  refine s0_371 ?_
  refine s0_372 ?_
  refine s0_376 rfl ?_
  refine s0_378 ?_
  refine s0_380 ?_
  refine s0_382 (fun h => absurd h (by decide)) (fun _ => ?_)
  refine s0_385 ?_
  refine s0_387 ?_
  refine s0_388 ?_
  refine s0_389 rfl (own_r31 a b c pd w) rfl ?_
  refine s0_392 ?_
  refine s0_394c (fun h => absurd rfl h) (fun _ => ?_)
  refine s0_398 ?_
  refine s0_400 ?_
  refine s0_401 ?_
  refine s0_402 rfl (own_r32 a b c pd w) rfl ?_
  refine s0_405 ?_
  refine s0_407c (fun h => absurd h (by decide)) (fun _ => ?_)
  refine s0_411 ?_
  refine s0_413 ?_
  refine s0_414 ?_
  refine s0_415 rfl (own_r33 a b c pd w) rfl ?_
  refine s0_418 ?_
  refine s0_420c (fun h => absurd rfl h) (fun _ => ?_)
  refine s0_424 ?_
  refine s0_425 ?_
  exact s0_429 rfl
set_option maxHeartbeats 4000000 in
theorem own_c0dkd (a b c pd : Int32) (w : Int64) (flags : Int32) (ha : w < a.toInt64 - pd.toInt64) (hb : ¬ w < b.toInt64 - pd.toInt64) (hc : w < c.toInt64 - pd.toInt64) : W0 room_1 57 [.val (.int a), .val (.int b), .val (.int c), .val (.int pd), .val (.long w), .second, .val (.int flags), .val (.int 1), .val (.int 1), .val (.int 1), .val (.int 0), .unset, .unset, .unset, .unset, .unset, .unset, .unset, .unset, .unset, .unset, .unset, .unset, .unset, .unset, .unset] [] [] (fun r _ => r = some (.int 1)) := by
  refine s0_57 ?_
  refine s0_58 0 2 (by decide) rfl rfl ?_
  refine s0_60 rfl ?_
  refine s0_61 ?_
  refine s0_62 ?_
  refine s0_63 0 rfl (by decide) rfl ?_
  refine s0_64 rfl ?_
  refine s0_65 ?_
  refine s0_66 ?_
  refine s0_67 1 rfl (by decide) rfl ?_
  refine s0_68 rfl ?_
  refine s0_70 ?_
  refine s0_71 1 2 (by decide) rfl rfl ?_
  refine s0_73 rfl ?_
  refine s0_74 ?_
  refine s0_75 ?_
  refine s0_76 0 rfl (by decide) rfl ?_
  refine s0_77 rfl ?_
  refine s0_78 ?_
  refine s0_79 ?_
  refine s0_80 1 rfl (by decide) rfl ?_
  refine s0_81 rfl ?_
  refine s0_83 2 rfl rfl ?_
  refine s0_86 rfl ?_
  refine s0_87 ?_
  refine s0_89 ?_
  refine s0_91 ?_
  refine s0_93 (own_r2 a b c pd w) rfl ?_
  refine s0_96 rfl ?_
  refine s0_98 ?_
  refine s0_100 (fun h => absurd h (by decide)) (fun _ => ?_)
  refine s0_103 ?_
  refine s0_105 ?_
  refine s0_106 rfl (own_r8 a b c pd w) rfl ?_
  refine s0_109 ?_
  refine s0_111 ?_
  refine s0_112 ?_
  refine s0_113 ?_
  refine s0_114 rfl (own_r10 a b c pd w) rfl ?_
  refine s0_117 ?_
  refine s0_119 (fun h => absurd h (by decide)) (fun _ => ?_)
  refine s0_122 ?_
  refine s0_124 ?_
  refine s0_125 rfl (own_r56 a b c pd w) rfl ?_
  refine s0_128 ?_
  refine s0_130 ?_
  refine s0_131 ?_
  refine s0_132 ?_
  refine s0_133 rfl (own_r58 a b c pd w) rfl ?_
  refine s0_136 ?_
  refine s0_138 (fun h => absurd h (by decide)) (fun _ => ?_)
  refine s0_141 ?_
  refine s0_143 ?_
  refine s0_144 rfl (own_r74 a b c pd w) rfl ?_
  refine s0_147 ?_
  refine s0_149 ?_
  refine s0_150 ?_
  refine s0_151 ?_
  refine s0_152 rfl (own_r76 a b c pd w) rfl ?_
  refine s0_155 ?_
  refine s0_157 (fun _ => ?_) (fun h => absurd h (by decide))
  refine s0_164 ?_
  refine s0_165 rfl ?_
  refine s0_167 ?_
  refine s0_169 ?_
  refine s0_171 ?_
  refine s0_172 rfl (own_r112 a b c pd w ha hb hc) rfl ?_
  refine s0_175 rfl ?_
  refine s0_177 ?_
  refine s0_179 (fun h => absurd h (by decide)) (fun _ => ?_)
  refine s0_182 ?_
  refine s0_183 ?_
  refine s0_184 ?_
  refine s0_186 (own_fit0 _ _ _ _ hc) rfl ?_
  refine s0_189 (fun _ => ?_) (fun h => absurd h (by decide))
  refine s0_196 ?_
  refine s0_197 rfl ?_
  refine s0_199 ?_
  refine s0_201 (fun h => absurd h (by decide)) (fun _ => ?_)
  refine s0_204 ?_
  refine s0_205 ?_
  refine s0_206 ?_
  refine s0_208 (own_fit0 _ _ _ _ ha) rfl ?_
  refine s0_211 (fun _ => ?_) (fun h => absurd h (by decide))
  refine s0_218 ?_
  refine s0_219 rfl ?_
  refine s0_221 ?_
  refine s0_223 (fun h => absurd h (by decide)) (fun _ => ?_)
  refine s0_226 ?_
  refine s0_227 ?_
  refine s0_228 ?_
  refine s0_230 (own_fit1 _ _ _ _ hb) rfl ?_
  refine s0_233 (fun h => absurd h (by decide)) (fun _ => ?_)
  refine s0_236 ?_
  refine s0_237 ?_
  refine s0_241 rfl ?_
  refine s0_243 ?_
  refine s0_245 (fun _ => ?_) (fun h => absurd h (by decide))
  refine s0_264 ?_
  refine s0_266 (fun h => absurd h (by decide)) (fun _ => ?_)
  refine s0_269 ?_
  refine s0_270 ?_
  refine s0_271 ?_
  refine s0_277 rfl ?_
  refine s0_279 ?_
  refine s0_281 (fun h => absurd h (by decide)) (fun _ => ?_)
  refine s0_284 ?_
  refine s0_286 (fun _ => ?_) (fun h => absurd h (by decide))
  refine s0_294 ?_
  refine s0_297 ?_
  refine s0_313 rfl ?_
  refine s0_315 ?_
  refine s0_317 (fun h => absurd h (by decide)) (fun _ => ?_)
  refine s0_320 ?_
  refine s0_322 (fun h => absurd h (by decide)) (fun _ => ?_)
  refine s0_325 ?_
  refine s0_326 ?_
  refine s0_327 ?_
  refine s0_349 rfl ?_
  refine s0_351 ?_
  refine s0_353 (fun _ => ?_) (fun h => absurd h (by decide))
  refine s0_361 ?_
  refine s0_363 (fun h => absurd h (by decide)) (fun _ => ?_)
  refine s0_366 ?_
  refine s0_368 (fun h => absurd h (by decide)) (fun _ => ?_)
  refine s0_371 ?_
  refine s0_372 ?_
  refine s0_376 rfl ?_
  refine s0_378 ?_
  refine s0_380 ?_
  refine s0_382 (fun h => absurd h (by decide)) (fun _ => ?_)
  refine s0_385 ?_
  refine s0_387 ?_
  refine s0_388 ?_
  refine s0_389 rfl (own_r31 a b c pd w) rfl ?_
  refine s0_392 ?_
  refine s0_394c (fun h => absurd rfl h) (fun _ => ?_)
  refine s0_398 ?_
  refine s0_400 ?_
  refine s0_401 ?_
  refine s0_402 rfl (own_r32 a b c pd w) rfl ?_
  refine s0_405 ?_
  refine s0_407c (fun h => absurd h (by decide)) (fun _ => ?_)
  refine s0_411 ?_
  refine s0_413 ?_
  refine s0_414 ?_
  refine s0_415 rfl (own_r33 a b c pd w) rfl ?_
  refine s0_418 ?_
  refine s0_420c (fun h => absurd rfl h) (fun _ => ?_)
  refine s0_424 ?_
  refine s0_425 ?_
  exact s0_429 rfl
set_option maxHeartbeats 4000000 in
theorem own_c0dd0 (a b c pd : Int32) (w : Int64) (flags : Int32) (ha : w < a.toInt64 - pd.toInt64) (hb : w < b.toInt64 - pd.toInt64) : W0 room_1 57 [.val (.int a), .val (.int b), .val (.int c), .val (.int pd), .val (.long w), .second, .val (.int flags), .val (.int 1), .val (.int 1), .val (.int 0), .val (.int 0), .unset, .unset, .unset, .unset, .unset, .unset, .unset, .unset, .unset, .unset, .unset, .unset, .unset, .unset, .unset] [] [] (fun r _ => r = some (.int 1)) := by
  refine s0_57 ?_
  refine s0_58 0 2 (by decide) rfl rfl ?_
  refine s0_60 rfl ?_
  refine s0_61 ?_
  refine s0_62 ?_
  refine s0_63 0 rfl (by decide) rfl ?_
  refine s0_64 rfl ?_
  refine s0_65 ?_
  refine s0_66 ?_
  refine s0_67 1 rfl (by decide) rfl ?_
  refine s0_68 rfl ?_
  refine s0_70 ?_
  refine s0_71 1 2 (by decide) rfl rfl ?_
  refine s0_73 rfl ?_
  refine s0_74 ?_
  refine s0_75 ?_
  refine s0_76 0 rfl (by decide) rfl ?_
  refine s0_77 rfl ?_
  refine s0_78 ?_
  refine s0_79 ?_
  refine s0_80 1 rfl (by decide) rfl ?_
  refine s0_81 rfl ?_
  refine s0_83 2 rfl rfl ?_
  refine s0_86 rfl ?_
  refine s0_87 ?_
  refine s0_89 ?_
  refine s0_91 ?_
  refine s0_93 (own_r2 a b c pd w) rfl ?_
  refine s0_96 rfl ?_
  refine s0_98 ?_
  refine s0_100 (fun _ => ?_) (fun h => absurd h (by decide))
  refine s0_117 ?_
  refine s0_119 (fun h => absurd h (by decide)) (fun _ => ?_)
  refine s0_122 ?_
  refine s0_124 ?_
  refine s0_125 rfl (own_r48 a b c pd w) rfl ?_
  refine s0_128 ?_
  refine s0_130 ?_
  refine s0_131 ?_
  refine s0_132 ?_
  refine s0_133 rfl (own_r50 a b c pd w) rfl ?_
  refine s0_136 ?_
  refine s0_138 (fun h => absurd h (by decide)) (fun _ => ?_)
  refine s0_141 ?_
  refine s0_143 ?_
  refine s0_144 rfl (own_r66 a b c pd w) rfl ?_
  refine s0_147 ?_
  refine s0_149 ?_
  refine s0_150 ?_
  refine s0_151 ?_
  refine s0_152 rfl (own_r68 a b c pd w) rfl ?_
  refine s0_155 ?_
  refine s0_157 (fun _ => ?_) (fun h => absurd h (by decide))
  refine s0_164 ?_
  refine s0_165 rfl ?_
  refine s0_167 ?_
  refine s0_169 ?_
  refine s0_171 ?_
  refine s0_172 rfl (own_r114 a b c pd w ha hb) rfl ?_
  refine s0_175 rfl ?_
  refine s0_177 ?_
  refine s0_179 (fun _ => ?_) (fun h => absurd h (by decide))
  refine s0_196 ?_
  refine s0_197 rfl ?_
  refine s0_199 ?_
  refine s0_201 (fun h => absurd h (by decide)) (fun _ => ?_)
  refine s0_204 ?_
  refine s0_205 ?_
  refine s0_206 ?_
  refine s0_208 (own_fit0 _ _ _ _ ha) rfl ?_
  refine s0_211 (fun _ => ?_) (fun h => absurd h (by decide))
  refine s0_218 ?_
  refine s0_219 rfl ?_
  refine s0_221 ?_
  refine s0_223 (fun h => absurd h (by decide)) (fun _ => ?_)
  refine s0_226 ?_
  refine s0_227 ?_
  refine s0_228 ?_
  refine s0_230 (own_fit0 _ _ _ _ hb) rfl ?_
  refine s0_233 (fun _ => ?_) (fun h => absurd h (by decide))
  refine s0_240 ?_
  refine s0_241 rfl ?_
  refine s0_243 ?_
  refine s0_245 (fun _ => ?_) (fun h => absurd h (by decide))
  refine s0_264 ?_
  refine s0_266 (fun _ => ?_) (fun h => absurd h (by decide))
  refine s0_274 ?_
  refine s0_277 rfl ?_
  refine s0_279 ?_
  refine s0_281 (fun h => absurd h (by decide)) (fun _ => ?_)
  refine s0_284 ?_
  refine s0_286 (fun _ => ?_) (fun h => absurd h (by decide))
  refine s0_294 ?_
  refine s0_297 ?_
  refine s0_313 rfl ?_
  refine s0_315 ?_
  refine s0_317 (fun h => absurd h (by decide)) (fun _ => ?_)
  refine s0_320 ?_
  refine s0_322 (fun _ => ?_) (fun h => absurd h (by decide))
  refine s0_330 ?_
  refine s0_333 ?_
  refine s0_349 rfl ?_
  refine s0_351 ?_
  refine s0_353 (fun _ => ?_) (fun h => absurd h (by decide))
  refine s0_361 ?_
  refine s0_363 (fun h => absurd h (by decide)) (fun _ => ?_)
  refine s0_366 ?_
  refine s0_368 (fun _ => ?_) (fun h => absurd h (by decide))
  refine s0_375 ?_
  refine s0_376 rfl ?_
  refine s0_378 ?_
  refine s0_380 ?_
  refine s0_382 (fun h => absurd h (by decide)) (fun _ => ?_)
  refine s0_385 ?_
  refine s0_387 ?_
  refine s0_388 ?_
  refine s0_389 rfl (own_r38 a b c pd w) rfl ?_
  refine s0_392 ?_
  refine s0_394c (fun h => absurd h (by decide)) (fun _ => ?_)
  refine s0_398 ?_
  refine s0_400 ?_
  refine s0_401 ?_
  refine s0_402 rfl (own_r39 a b c pd w) rfl ?_
  refine s0_405 ?_
  refine s0_407c (fun h => absurd h (by decide)) (fun _ => ?_)
  refine s0_411 ?_
  refine s0_413 ?_
  refine s0_414 ?_
  refine s0_415 rfl (own_r40 a b c pd w) rfl ?_
  refine s0_418 ?_
  refine s0_420c (fun h => absurd h (by decide)) (fun _ => ?_)
  refine s0_424 ?_
  refine s0_425 ?_
  exact s0_429 rfl
set_option maxHeartbeats 4000000 in
theorem own_c0ddk (a b c pd : Int32) (w : Int64) (flags : Int32) (ha : w < a.toInt64 - pd.toInt64) (hb : w < b.toInt64 - pd.toInt64) (hc : ¬ w < c.toInt64 - pd.toInt64) : W0 room_1 57 [.val (.int a), .val (.int b), .val (.int c), .val (.int pd), .val (.long w), .second, .val (.int flags), .val (.int 1), .val (.int 1), .val (.int 1), .val (.int 0), .unset, .unset, .unset, .unset, .unset, .unset, .unset, .unset, .unset, .unset, .unset, .unset, .unset, .unset, .unset] [] [] (fun r _ => r = some (.int 1)) := by
  refine s0_57 ?_
  refine s0_58 0 2 (by decide) rfl rfl ?_
  refine s0_60 rfl ?_
  refine s0_61 ?_
  refine s0_62 ?_
  refine s0_63 0 rfl (by decide) rfl ?_
  refine s0_64 rfl ?_
  refine s0_65 ?_
  refine s0_66 ?_
  refine s0_67 1 rfl (by decide) rfl ?_
  refine s0_68 rfl ?_
  refine s0_70 ?_
  refine s0_71 1 2 (by decide) rfl rfl ?_
  refine s0_73 rfl ?_
  refine s0_74 ?_
  refine s0_75 ?_
  refine s0_76 0 rfl (by decide) rfl ?_
  refine s0_77 rfl ?_
  refine s0_78 ?_
  refine s0_79 ?_
  refine s0_80 1 rfl (by decide) rfl ?_
  refine s0_81 rfl ?_
  refine s0_83 2 rfl rfl ?_
  refine s0_86 rfl ?_
  refine s0_87 ?_
  refine s0_89 ?_
  refine s0_91 ?_
  refine s0_93 (own_r2 a b c pd w) rfl ?_
  refine s0_96 rfl ?_
  refine s0_98 ?_
  refine s0_100 (fun h => absurd h (by decide)) (fun _ => ?_)
  refine s0_103 ?_
  refine s0_105 ?_
  refine s0_106 rfl (own_r8 a b c pd w) rfl ?_
  refine s0_109 ?_
  refine s0_111 ?_
  refine s0_112 ?_
  refine s0_113 ?_
  refine s0_114 rfl (own_r10 a b c pd w) rfl ?_
  refine s0_117 ?_
  refine s0_119 (fun h => absurd h (by decide)) (fun _ => ?_)
  refine s0_122 ?_
  refine s0_124 ?_
  refine s0_125 rfl (own_r56 a b c pd w) rfl ?_
  refine s0_128 ?_
  refine s0_130 ?_
  refine s0_131 ?_
  refine s0_132 ?_
  refine s0_133 rfl (own_r58 a b c pd w) rfl ?_
  refine s0_136 ?_
  refine s0_138 (fun h => absurd h (by decide)) (fun _ => ?_)
  refine s0_141 ?_
  refine s0_143 ?_
  refine s0_144 rfl (own_r74 a b c pd w) rfl ?_
  refine s0_147 ?_
  refine s0_149 ?_
  refine s0_150 ?_
  refine s0_151 ?_
  refine s0_152 rfl (own_r76 a b c pd w) rfl ?_
  refine s0_155 ?_
  refine s0_157 (fun _ => ?_) (fun h => absurd h (by decide))
  refine s0_164 ?_
  refine s0_165 rfl ?_
  refine s0_167 ?_
  refine s0_169 ?_
  refine s0_171 ?_
  refine s0_172 rfl (own_r116 a b c pd w ha hb hc) rfl ?_
  refine s0_175 rfl ?_
  refine s0_177 ?_
  refine s0_179 (fun h => absurd h (by decide)) (fun _ => ?_)
  refine s0_182 ?_
  refine s0_183 ?_
  refine s0_184 ?_
  refine s0_186 (own_fit1 _ _ _ _ hc) rfl ?_
  refine s0_189 (fun h => absurd h (by decide)) (fun _ => ?_)
  refine s0_192 ?_
  refine s0_193 ?_
  refine s0_197 rfl ?_
  refine s0_199 ?_
  refine s0_201 (fun h => absurd h (by decide)) (fun _ => ?_)
  refine s0_204 ?_
  refine s0_205 ?_
  refine s0_206 ?_
  refine s0_208 (own_fit0 _ _ _ _ ha) rfl ?_
  refine s0_211 (fun _ => ?_) (fun h => absurd h (by decide))
  refine s0_218 ?_
  refine s0_219 rfl ?_
  refine s0_221 ?_
  refine s0_223 (fun h => absurd h (by decide)) (fun _ => ?_)
  refine s0_226 ?_
  refine s0_227 ?_
  refine s0_228 ?_
  refine s0_230 (own_fit0 _ _ _ _ hb) rfl ?_
  refine s0_233 (fun _ => ?_) (fun h => absurd h (by decide))
  refine s0_240 ?_
  refine s0_241 rfl ?_
  refine s0_243 ?_
  refine s0_245 (fun _ => ?_) (fun h => absurd h (by decide))
  refine s0_264 ?_
  refine s0_266 (fun h => absurd h (by decide)) (fun _ => ?_)
  refine s0_269 ?_
  refine s0_270 ?_
  refine s0_271 ?_
  refine s0_277 rfl ?_
  refine s0_279 ?_
  refine s0_281 (fun h => absurd h (by decide)) (fun _ => ?_)
  refine s0_284 ?_
  refine s0_286 (fun _ => ?_) (fun h => absurd h (by decide))
  refine s0_294 ?_
  refine s0_297 ?_
  refine s0_313 rfl ?_
  refine s0_315 ?_
  refine s0_317 (fun h => absurd h (by decide)) (fun _ => ?_)
  refine s0_320 ?_
  refine s0_322 (fun _ => ?_) (fun h => absurd h (by decide))
  refine s0_330 ?_
  refine s0_333 ?_
  refine s0_349 rfl ?_
  refine s0_351 ?_
  refine s0_353 (fun _ => ?_) (fun h => absurd h (by decide))
  refine s0_361 ?_
  refine s0_363 (fun h => absurd h (by decide)) (fun _ => ?_)
  refine s0_366 ?_
  refine s0_368 (fun _ => ?_) (fun h => absurd h (by decide))
  refine s0_375 ?_
  refine s0_376 rfl ?_
  refine s0_378 ?_
  refine s0_380 ?_
  refine s0_382 (fun h => absurd h (by decide)) (fun _ => ?_)
  refine s0_385 ?_
  refine s0_387 ?_
  refine s0_388 ?_
  refine s0_389 rfl (own_r43 a b c pd w) rfl ?_
  refine s0_392 ?_
  refine s0_394c (fun h => absurd rfl h) (fun _ => ?_)
  refine s0_398 ?_
  refine s0_400 ?_
  refine s0_401 ?_
  refine s0_402 rfl (own_r44 a b c pd w) rfl ?_
  refine s0_405 ?_
  refine s0_407c (fun h => absurd h (by decide)) (fun _ => ?_)
  refine s0_411 ?_
  refine s0_413 ?_
  refine s0_414 ?_
  refine s0_415 rfl (own_r45 a b c pd w) rfl ?_
  refine s0_418 ?_
  refine s0_420c (fun h => absurd h (by decide)) (fun _ => ?_)
  refine s0_424 ?_
  refine s0_425 ?_
  exact s0_429 rfl
set_option maxHeartbeats 4000000 in
theorem own_c0ddd (a b c pd : Int32) (w : Int64) (flags : Int32) (ha : w < a.toInt64 - pd.toInt64) (hb : w < b.toInt64 - pd.toInt64) (hc : w < c.toInt64 - pd.toInt64) : W0 room_1 57 [.val (.int a), .val (.int b), .val (.int c), .val (.int pd), .val (.long w), .second, .val (.int flags), .val (.int 1), .val (.int 1), .val (.int 1), .val (.int 0), .unset, .unset, .unset, .unset, .unset, .unset, .unset, .unset, .unset, .unset, .unset, .unset, .unset, .unset, .unset] [] [] (fun r _ => r = some (.int 1)) := by
  refine s0_57 ?_
  refine s0_58 0 2 (by decide) rfl rfl ?_
  refine s0_60 rfl ?_
  refine s0_61 ?_
  refine s0_62 ?_
  refine s0_63 0 rfl (by decide) rfl ?_
  refine s0_64 rfl ?_
  refine s0_65 ?_
  refine s0_66 ?_
  refine s0_67 1 rfl (by decide) rfl ?_
  refine s0_68 rfl ?_
  refine s0_70 ?_
  refine s0_71 1 2 (by decide) rfl rfl ?_
  refine s0_73 rfl ?_
  refine s0_74 ?_
  refine s0_75 ?_
  refine s0_76 0 rfl (by decide) rfl ?_
  refine s0_77 rfl ?_
  refine s0_78 ?_
  refine s0_79 ?_
  refine s0_80 1 rfl (by decide) rfl ?_
  refine s0_81 rfl ?_
  refine s0_83 2 rfl rfl ?_
  refine s0_86 rfl ?_
  refine s0_87 ?_
  refine s0_89 ?_
  refine s0_91 ?_
  refine s0_93 (own_r2 a b c pd w) rfl ?_
  refine s0_96 rfl ?_
  refine s0_98 ?_
  refine s0_100 (fun h => absurd h (by decide)) (fun _ => ?_)
  refine s0_103 ?_
  refine s0_105 ?_
  refine s0_106 rfl (own_r8 a b c pd w) rfl ?_
  refine s0_109 ?_
  refine s0_111 ?_
  refine s0_112 ?_
  refine s0_113 ?_
  refine s0_114 rfl (own_r10 a b c pd w) rfl ?_
  refine s0_117 ?_
  refine s0_119 (fun h => absurd h (by decide)) (fun _ => ?_)
  refine s0_122 ?_
  refine s0_124 ?_
  refine s0_125 rfl (own_r56 a b c pd w) rfl ?_
  refine s0_128 ?_
  refine s0_130 ?_
  refine s0_131 ?_
  refine s0_132 ?_
  refine s0_133 rfl (own_r58 a b c pd w) rfl ?_
  refine s0_136 ?_
  refine s0_138 (fun h => absurd h (by decide)) (fun _ => ?_)
  refine s0_141 ?_
  refine s0_143 ?_
  refine s0_144 rfl (own_r74 a b c pd w) rfl ?_
  refine s0_147 ?_
  refine s0_149 ?_
  refine s0_150 ?_
  refine s0_151 ?_
  refine s0_152 rfl (own_r76 a b c pd w) rfl ?_
  refine s0_155 ?_
  refine s0_157 (fun _ => ?_) (fun h => absurd h (by decide))
  refine s0_164 ?_
  refine s0_165 rfl ?_
  refine s0_167 ?_
  refine s0_169 ?_
  refine s0_171 ?_
  refine s0_172 rfl (own_r118 a b c pd w ha hb hc) rfl ?_
  refine s0_175 rfl ?_
  refine s0_177 ?_
  refine s0_179 (fun h => absurd h (by decide)) (fun _ => ?_)
  refine s0_182 ?_
  refine s0_183 ?_
  refine s0_184 ?_
  refine s0_186 (own_fit0 _ _ _ _ hc) rfl ?_
  refine s0_189 (fun _ => ?_) (fun h => absurd h (by decide))
  refine s0_196 ?_
  refine s0_197 rfl ?_
  refine s0_199 ?_
  refine s0_201 (fun h => absurd h (by decide)) (fun _ => ?_)
  refine s0_204 ?_
  refine s0_205 ?_
  refine s0_206 ?_
  refine s0_208 (own_fit0 _ _ _ _ ha) rfl ?_
  refine s0_211 (fun _ => ?_) (fun h => absurd h (by decide))
  refine s0_218 ?_
  refine s0_219 rfl ?_
  refine s0_221 ?_
  refine s0_223 (fun h => absurd h (by decide)) (fun _ => ?_)
  refine s0_226 ?_
  refine s0_227 ?_
  refine s0_228 ?_
  refine s0_230 (own_fit0 _ _ _ _ hb) rfl ?_
  refine s0_233 (fun _ => ?_) (fun h => absurd h (by decide))
  refine s0_240 ?_
  refine s0_241 rfl ?_
  refine s0_243 ?_
  refine s0_245 (fun _ => ?_) (fun h => absurd h (by decide))
  refine s0_264 ?_
  refine s0_266 (fun h => absurd h (by decide)) (fun _ => ?_)
  refine s0_269 ?_
  refine s0_270 ?_
  refine s0_271 ?_
  refine s0_277 rfl ?_
  refine s0_279 ?_
  refine s0_281 (fun h => absurd h (by decide)) (fun _ => ?_)
  refine s0_284 ?_
  refine s0_286 (fun _ => ?_) (fun h => absurd h (by decide))
  refine s0_294 ?_
  refine s0_297 ?_
  refine s0_313 rfl ?_
  refine s0_315 ?_
  refine s0_317 (fun h => absurd h (by decide)) (fun _ => ?_)
  refine s0_320 ?_
  refine s0_322 (fun _ => ?_) (fun h => absurd h (by decide))
  refine s0_330 ?_
  refine s0_333 ?_
  refine s0_349 rfl ?_
  refine s0_351 ?_
  refine s0_353 (fun _ => ?_) (fun h => absurd h (by decide))
  refine s0_361 ?_
  refine s0_363 (fun h => absurd h (by decide)) (fun _ => ?_)
  refine s0_366 ?_
  refine s0_368 (fun _ => ?_) (fun h => absurd h (by decide))
  refine s0_375 ?_
  refine s0_376 rfl ?_
  refine s0_378 ?_
  refine s0_380 ?_
  refine s0_382 (fun h => absurd h (by decide)) (fun _ => ?_)
  refine s0_385 ?_
  refine s0_387 ?_
  refine s0_388 ?_
  refine s0_389 rfl (own_r43 a b c pd w) rfl ?_
  refine s0_392 ?_
  refine s0_394c (fun h => absurd rfl h) (fun _ => ?_)
  refine s0_398 ?_
  refine s0_400 ?_
  refine s0_401 ?_
  refine s0_402 rfl (own_r44 a b c pd w) rfl ?_
  refine s0_405 ?_
  refine s0_407c (fun h => absurd h (by decide)) (fun _ => ?_)
  refine s0_411 ?_
  refine s0_413 ?_
  refine s0_414 ?_
  refine s0_415 rfl (own_r45 a b c pd w) rfl ?_
  refine s0_418 ?_
  refine s0_420c (fun h => absurd h (by decide)) (fun _ => ?_)
  refine s0_424 ?_
  refine s0_425 ?_
  exact s0_429 rfl
set_option maxHeartbeats 4000000 in
theorem own_c1000 (a b c pd : Int32) (w : Int64) (flags : Int32) : W0 room_1 57 [.val (.int a), .val (.int b), .val (.int c), .val (.int pd), .val (.long w), .second, .val (.int flags), .val (.int 0), .val (.int 0), .val (.int 0), .val (.int 1), .unset, .unset, .unset, .unset, .unset, .unset, .unset, .unset, .unset, .unset, .unset, .unset, .unset, .unset, .unset] [] [] (fun r _ => r = some (.int 1)) := by
  refine s0_57 ?_
  refine s0_58 0 2 (by decide) rfl rfl ?_
  refine s0_60 rfl ?_
  refine s0_61 ?_
  refine s0_62 ?_
  refine s0_63 0 rfl (by decide) rfl ?_
  refine s0_64 rfl ?_
  refine s0_65 ?_
  refine s0_66 ?_
  refine s0_67 1 rfl (by decide) rfl ?_
  refine s0_68 rfl ?_
  refine s0_70 ?_
  refine s0_71 1 2 (by decide) rfl rfl ?_
  refine s0_73 rfl ?_
  refine s0_74 ?_
  refine s0_75 ?_
  refine s0_76 0 rfl (by decide) rfl ?_
  refine s0_77 rfl ?_
  refine s0_78 ?_
  refine s0_79 ?_
  refine s0_80 1 rfl (by decide) rfl ?_
  refine s0_81 rfl ?_
  refine s0_83 2 rfl rfl ?_
  refine s0_86 rfl ?_
  refine s0_87 ?_
  refine s0_89 ?_
  refine s0_91 ?_
  refine s0_93 (own_r2 a b c pd w) rfl ?_
  refine s0_96 rfl ?_
  refine s0_98 ?_
  refine s0_100 (fun _ => ?_) (fun h => absurd h (by decide))
  refine s0_117 ?_
  refine s0_119 (fun _ => ?_) (fun h => absurd h (by decide))
  refine s0_136 ?_
  refine s0_138 (fun _ => ?_) (fun h => absurd h (by decide))
  refine s0_155 ?_
  refine s0_157 (fun h => absurd h (by decide)) (fun _ => ?_)
  refine s0_160 ?_
  refine s0_161 ?_
  refine s0_165 rfl ?_
  refine s0_167 ?_
  refine s0_169 ?_
  refine s0_171 ?_
  refine s0_172 rfl (own_r120 a b c pd w) rfl ?_
  refine s0_175 rfl ?_
  refine s0_177 ?_
  refine s0_179 (fun _ => ?_) (fun h => absurd h (by decide))
  refine s0_196 ?_
  refine s0_197 rfl ?_
  refine s0_199 ?_
  refine s0_201 (fun _ => ?_) (fun h => absurd h (by decide))
  refine s0_218 ?_
  refine s0_219 rfl ?_
  refine s0_221 ?_
  refine s0_223 (fun _ => ?_) (fun h => absurd h (by decide))
  refine s0_240 ?_
  refine s0_241 rfl ?_
  refine s0_243 ?_
  refine s0_245 (fun h => absurd h (by decide)) (fun _ => ?_)
  refine s0_248 ?_
  refine s0_250 (fun _ => ?_) (fun h => absurd h (by decide))
  refine s0_258 ?_
  refine s0_261 ?_
  refine s0_277 rfl ?_
  refine s0_279 ?_
  refine s0_281 (fun _ => ?_) (fun h => absurd h (by decide))
  refine s0_300 ?_
  refine s0_302 (fun _ => ?_) (fun h => absurd h (by decide))
  refine s0_310 ?_
  refine s0_313 rfl ?_
  refine s0_315 ?_
  refine s0_317 (fun _ => ?_) (fun h => absurd h (by decide))
  refine s0_336 ?_
  refine s0_338 (fun _ => ?_) (fun h => absurd h (by decide))
  refine s0_346 ?_
  refine s0_349 rfl ?_
  refine s0_351 ?_
  refine s0_353 (fun h => absurd h (by decide)) (fun _ => ?_)
  refine s0_356 ?_
  refine s0_358 ?_
  refine s0_376 rfl ?_
  refine s0_378 ?_
  refine s0_380 ?_
  refine s0_382 (fun h => absurd h (by decide)) (fun _ => ?_)
  refine s0_385 ?_
  refine s0_387 ?_
  refine s0_388 ?_
  refine s0_389 rfl (own_r5 a b c pd w) rfl ?_
  refine s0_392 ?_
  refine s0_394c (fun h => absurd h (by decide)) (fun _ => ?_)
  refine s0_398 ?_
  refine s0_400 ?_
  refine s0_401 ?_
  refine s0_402 rfl (own_r6 a b c pd w) rfl ?_
  refine s0_405 ?_
  refine s0_407c (fun h => absurd h (by decide)) (fun _ => ?_)
  refine s0_411 ?_
  refine s0_413 ?_
  refine s0_414 ?_
  refine s0_415 rfl (own_r7 a b c pd w) rfl ?_
  refine s0_418 ?_
  refine s0_420c (fun h => absurd h (by decide)) (fun _ => ?_)
  refine s0_424 ?_
  refine s0_425 ?_
  exact s0_429 rfl
set_option maxHeartbeats 4000000 in
theorem own_c100k (a b c pd : Int32) (w : Int64) (flags : Int32) (hc : ¬ w < c.toInt64 - pd.toInt64) : W0 room_1 57 [.val (.int a), .val (.int b), .val (.int c), .val (.int pd), .val (.long w), .second, .val (.int flags), .val (.int 0), .val (.int 0), .val (.int 1), .val (.int 1), .unset, .unset, .unset, .unset, .unset, .unset, .unset, .unset, .unset, .unset, .unset, .unset, .unset, .unset, .unset] [] [] (fun r _ => r = some (.int 1)) := by
  refine s0_57 ?_
  refine s0_58 0 2 (by decide) rfl rfl ?_
  refine s0_60 rfl ?_
  refine s0_61 ?_
  refine s0_62 ?_
  refine s0_63 0 rfl (by decide) rfl ?_
  refine s0_64 rfl ?_
  refine s0_65 ?_
  refine s0_66 ?_
  refine s0_67 1 rfl (by decide) rfl ?_
  refine s0_68 rfl ?_
  refine s0_70 ?_
  refine s0_71 1 2 (by decide) rfl rfl ?_
  refine s0_73 rfl ?_
  refine s0_74 ?_
  refine s0_75 ?_
  refine s0_76 0 rfl (by decide) rfl ?_
  refine s0_77 rfl ?_
  refine s0_78 ?_
  refine s0_79 ?_
  refine s0_80 1 rfl (by decide) rfl ?_
  refine s0_81 rfl ?_
  refine s0_83 2 rfl rfl ?_
  refine s0_86 rfl ?_
  refine s0_87 ?_
  refine s0_89 ?_
  refine s0_91 ?_
  refine s0_93 (own_r2 a b c pd w) rfl ?_
  refine s0_96 rfl ?_
  refine s0_98 ?_
  refine s0_100 (fun h => absurd h (by decide)) (fun _ => ?_)
  refine s0_103 ?_
  refine s0_105 ?_
  refine s0_106 rfl (own_r8 a b c pd w) rfl ?_
  refine s0_109 ?_
  refine s0_111 ?_
  refine s0_112 ?_
  refine s0_113 ?_
  refine s0_114 rfl (own_r10 a b c pd w) rfl ?_
  refine s0_117 ?_
  refine s0_119 (fun _ => ?_) (fun h => absurd h (by decide))
  refine s0_136 ?_
  refine s0_138 (fun _ => ?_) (fun h => absurd h (by decide))
  refine s0_155 ?_
  refine s0_157 (fun h => absurd h (by decide)) (fun _ => ?_)
  refine s0_160 ?_
  refine s0_161 ?_
  refine s0_165 rfl ?_
  refine s0_167 ?_
  refine s0_169 ?_
  refine s0_171 ?_
  refine s0_172 rfl (own_r122 a b c pd w hc) rfl ?_
  refine s0_175 rfl ?_
  refine s0_177 ?_
  refine s0_179 (fun h => absurd h (by decide)) (fun _ => ?_)
  refine s0_182 ?_
  refine s0_183 ?_
  refine s0_184 ?_
  refine s0_186 (own_fit1 _ _ _ _ hc) rfl ?_
  refine s0_189 (fun h => absurd h (by decide)) (fun _ => ?_)
  refine s0_192 ?_
  refine s0_193 ?_
  refine s0_197 rfl ?_
  refine s0_199 ?_
  refine s0_201 (fun _ => ?_) (fun h => absurd h (by decide))
  refine s0_218 ?_
  refine s0_219 rfl ?_
  refine s0_221 ?_
  refine s0_223 (fun _ => ?_) (fun h => absurd h (by decide))
  refine s0_240 ?_
  refine s0_241 rfl ?_
  refine s0_243 ?_
  refine s0_245 (fun h => absurd h (by decide)) (fun _ => ?_)
  refine s0_248 ?_
  refine s0_250 (fun h => absurd h (by decide)) (fun _ => ?_)
  refine s0_253 ?_
  refine s0_254 ?_
  refine s0_255 ?_
  refine s0_277 rfl ?_
  refine s0_279 ?_
  refine s0_281 (fun _ => ?_) (fun h => absurd h (by decide))
  refine s0_300 ?_
  refine s0_302 (fun _ => ?_) (fun h => absurd h (by decide))
  refine s0_310 ?_
  refine s0_313 rfl ?_
  refine s0_315 ?_
  refine s0_317 (fun _ => ?_) (fun h => absurd h (by decide))
  refine s0_336 ?_
  refine s0_338 (fun _ => ?_) (fun h => absurd h (by decide))
  refine s0_346 ?_
  refine s0_349 rfl ?_
  refine s0_351 ?_
  refine s0_353 (fun h => absurd h (by decide)) (fun _ => ?_)
  refine s0_356 ?_
  refine s0_358 ?_
  refine s0_376 rfl ?_
  refine s0_378 ?_
  refine s0_380 ?_
  refine s0_382 (fun h => absurd h (by decide)) (fun _ => ?_)
  refine s0_385 ?_
  refine s0_387 ?_
  refine s0_388 ?_
  refine s0_389 rfl (own_r13 a b c pd w) rfl ?_
  refine s0_392 ?_
  refine s0_394c (fun h => absurd rfl h) (fun _ => ?_)
  refine s0_398 ?_
  refine s0_400 ?_
  refine s0_401 ?_
  refine s0_402 rfl (own_r14 a b c pd w) rfl ?_
  refine s0_405 ?_
  refine s0_407c (fun h => absurd h (by decide)) (fun _ => ?_)
  refine s0_411 ?_
  refine s0_413 ?_
  refine s0_414 ?_
  refine s0_415 rfl (own_r15 a b c pd w) rfl ?_
  refine s0_418 ?_
  refine s0_420c (fun h => absurd h (by decide)) (fun _ => ?_)
  refine s0_424 ?_
  refine s0_425 ?_
  exact s0_429 rfl
set_option maxHeartbeats 4000000 in
theorem own_c100d (a b c pd : Int32) (w : Int64) (flags : Int32) (hc : w < c.toInt64 - pd.toInt64) : W0 room_1 57 [.val (.int a), .val (.int b), .val (.int c), .val (.int pd), .val (.long w), .second, .val (.int flags), .val (.int 0), .val (.int 0), .val (.int 1), .val (.int 1), .unset, .unset, .unset, .unset, .unset, .unset, .unset, .unset, .unset, .unset, .unset, .unset, .unset, .unset, .unset] [] [] (fun r _ => r = some (.int 1)) := by
  refine s0_57 ?_
  refine s0_58 0 2 (by decide) rfl rfl ?_
  refine s0_60 rfl ?_
  refine s0_61 ?_
  refine s0_62 ?_
  refine s0_63 0 rfl (by decide) rfl ?_
  refine s0_64 rfl ?_
  refine s0_65 ?_
  refine s0_66 ?_
  refine s0_67 1 rfl (by decide) rfl ?_
  refine s0_68 rfl ?_
  refine s0_70 ?_
  refine s0_71 1 2 (by decide) rfl rfl ?_
  refine s0_73 rfl ?_
  refine s0_74 ?_
  refine s0_75 ?_
  refine s0_76 0 rfl (by decide) rfl ?_
  refine s0_77 rfl ?_
  refine s0_78 ?_
  refine s0_79 ?_
  refine s0_80 1 rfl (by decide) rfl ?_
  refine s0_81 rfl ?_
  refine s0_83 2 rfl rfl ?_
  refine s0_86 rfl ?_
  refine s0_87 ?_
  refine s0_89 ?_
  refine s0_91 ?_
  refine s0_93 (own_r2 a b c pd w) rfl ?_
  refine s0_96 rfl ?_
  refine s0_98 ?_
  refine s0_100 (fun h => absurd h (by decide)) (fun _ => ?_)
  refine s0_103 ?_
  refine s0_105 ?_
  refine s0_106 rfl (own_r8 a b c pd w) rfl ?_
  refine s0_109 ?_
  refine s0_111 ?_
  refine s0_112 ?_
  refine s0_113 ?_
  refine s0_114 rfl (own_r10 a b c pd w) rfl ?_
  refine s0_117 ?_
  refine s0_119 (fun _ => ?_) (fun h => absurd h (by decide))
  refine s0_136 ?_
  refine s0_138 (fun _ => ?_) (fun h => absurd h (by decide))
  refine s0_155 ?_
  refine s0_157 (fun h => absurd h (by decide)) (fun _ => ?_)
  refine s0_160 ?_
  refine s0_161 ?_
  refine s0_165 rfl ?_
  refine s0_167 ?_
  refine s0_169 ?_
  refine s0_171 ?_
  refine s0_172 rfl (own_r124 a b c pd w hc) rfl ?_
  refine s0_175 rfl ?_
  refine s0_177 ?_
  refine s0_179 (fun h => absurd h (by decide)) (fun _ => ?_)
  refine s0_182 ?_
  refine s0_183 ?_
  refine s0_184 ?_
  refine s0_186 (own_fit0 _ _ _ _ hc) rfl ?_
  refine s0_189 (fun _ => ?_) (fun h => absurd h (by decide))
  refine s0_196 ?_
  refine s0_197 rfl ?_
  refine s0_199 ?_
  refine s0_201 (fun _ => ?_) (fun h => absurd h (by decide))
  refine s0_218 ?_
  refine s0_219 rfl ?_
  refine s0_221 ?_
  refine s0_223 (fun _ => ?_) (fun h => absurd h (by decide))
  refine s0_240 ?_
  refine s0_241 rfl ?_
  refine s0_243 ?_
  refine s0_245 (fun h => absurd h (by decide)) (fun _ => ?_)
  refine s0_248 ?_
  refine s0_250 (fun _ => ?_) (fun h => absurd h (by decide))
  refine s0_258 ?_
  refine s0_261 ?_
  refine s0_277 rfl ?_
  refine s0_279 ?_
  refine s0_281 (fun _ => ?_) (fun h => absurd h (by decide))
  refine s0_300 ?_
  refine s0_302 (fun _ => ?_) (fun h => absurd h (by decide))
  refine s0_310 ?_
  refine s0_313 rfl ?_
  refine s0_315 ?_
  refine s0_317 (fun _ => ?_) (fun h => absurd h (by decide))
  refine s0_336 ?_
  refine s0_338 (fun _ => ?_) (fun h => absurd h (by decide))
  refine s0_346 ?_
  refine s0_349 rfl ?_
  refine s0_351 ?_
  refine s0_353 (fun h => absurd h (by decide)) (fun _ => ?_)
  refine s0_356 ?_
  refine s0_358 ?_
  refine s0_376 rfl ?_
  refine s0_378 ?_
  refine s0_380 ?_
  refine s0_382 (fun h => absurd h (by decide)) (fun _ => ?_)
  refine s0_385 ?_
  refine s0_387 ?_
  refine s0_388 ?_
  refine s0_389 rfl (own_r126 a b c pd w) rfl ?_
  refine s0_392 ?_
  refine s0_394c (fun h => absurd h (by decide)) (fun _ => ?_)
  refine s0_398 ?_
  refine s0_400 ?_
  refine s0_401 ?_
  refine s0_402 rfl (own_r127 a b c pd w) rfl ?_
  refine s0_405 ?_
  refine s0_407c (fun h => absurd h (by decide)) (fun _ => ?_)
  refine s0_411 ?_
  refine s0_413 ?_
  refine s0_414 ?_
  refine s0_415 rfl (own_r128 a b c pd w) rfl ?_
  refine s0_418 ?_
  refine s0_420c (fun h => absurd h (by decide)) (fun _ => ?_)
  refine s0_424 ?_
  refine s0_425 ?_
  exact s0_429 rfl
set_option maxHeartbeats 4000000 in
theorem own_c10k0 (a b c pd : Int32) (w : Int64) (flags : Int32) (hb : ¬ w < b.toInt64 - pd.toInt64) : W0 room_1 57 [.val (.int a), .val (.int b), .val (.int c), .val (.int pd), .val (.long w), .second, .val (.int flags), .val (.int 0), .val (.int 1), .val (.int 0), .val (.int 1), .unset, .unset, .unset, .unset, .unset, .unset, .unset, .unset, .unset, .unset, .unset, .unset, .unset, .unset, .unset] [] [] (fun r _ => r = some (.int 1)) := by
  refine s0_57 ?_
  refine s0_58 0 2 (by decide) rfl rfl ?_
  refine s0_60 rfl ?_
  refine s0_61 ?_
  refine s0_62 ?_
  refine s0_63 0 rfl (by decide) rfl ?_
  refine s0_64 rfl ?_
  refine s0_65 ?_
  refine s0_66 ?_
  refine s0_67 1 rfl (by decide) rfl ?_
  refine s0_68 rfl ?_
  refine s0_70 ?_
  refine s0_71 1 2 (by decide) rfl rfl ?_
  refine s0_73 rfl ?_
  refine s0_74 ?_
  refine s0_75 ?_
  refine s0_76 0 rfl (by decide) rfl ?_
  refine s0_77 rfl ?_
  refine s0_78 ?_
  refine s0_79 ?_
  refine s0_80 1 rfl (by decide) rfl ?_
  refine s0_81 rfl ?_
  refine s0_83 2 rfl rfl ?_
  refine s0_86 rfl ?_
  refine s0_87 ?_
  refine s0_89 ?_
  refine s0_91 ?_
  refine s0_93 (own_r2 a b c pd w) rfl ?_
  refine s0_96 rfl ?_
  refine s0_98 ?_
  refine s0_100 (fun _ => ?_) (fun h => absurd h (by decide))
  refine s0_117 ?_
  refine s0_119 (fun _ => ?_) (fun h => absurd h (by decide))
  refine s0_136 ?_
  refine s0_138 (fun h => absurd h (by decide)) (fun _ => ?_)
  refine s0_141 ?_
  refine s0_143 ?_
  refine s0_144 rfl (own_r18 a b c pd w) rfl ?_
  refine s0_147 ?_
  refine s0_149 ?_
  refine s0_150 ?_
  refine s0_151 ?_
  refine s0_152 rfl (own_r20 a b c pd w) rfl ?_
  refine s0_155 ?_
  refine s0_157 (fun h => absurd h (by decide)) (fun _ => ?_)
  refine s0_160 ?_
  refine s0_161 ?_
  refine s0_165 rfl ?_
  refine s0_167 ?_
  refine s0_169 ?_
  refine s0_171 ?_
  refine s0_172 rfl (own_r129 a b c pd w hb) rfl ?_
  refine s0_175 rfl ?_
  refine s0_177 ?_
  refine s0_179 (fun _ => ?_) (fun h => absurd h (by decide))
  refine s0_196 ?_
  refine s0_197 rfl ?_
  refine s0_199 ?_
  refine s0_201 (fun _ => ?_) (fun h => absurd h (by decide))
  refine s0_218 ?_
  refine s0_219 rfl ?_
  refine s0_221 ?_
  refine s0_223 (fun h => absurd h (by decide)) (fun _ => ?_)
  refine s0_226 ?_
  refine s0_227 ?_
  refine s0_228 ?_
  refine s0_230 (own_fit1 _ _ _ _ hb) rfl ?_
  refine s0_233 (fun h => absurd h (by decide)) (fun _ => ?_)
  refine s0_236 ?_
  refine s0_237 ?_
  refine s0_241 rfl ?_
  refine s0_243 ?_
  refine s0_245 (fun h => absurd h (by decide)) (fun _ => ?_)
  refine s0_248 ?_
  refine s0_250 (fun _ => ?_) (fun h => absurd h (by decide))
  refine s0_258 ?_
  refine s0_261 ?_
  refine s0_277 rfl ?_
  refine s0_279 ?_
  refine s0_281 (fun _ => ?_) (fun h => absurd h (by decide))
  refine s0_300 ?_
  refine s0_302 (fun _ => ?_) (fun h => absurd h (by decide))
  refine s0_310 ?_
  refine s0_313 rfl ?_
  refine s0_315 ?_
  refine s0_317 (fun _ => ?_) (fun h => absurd h (by decide))
  refine s0_336 ?_
  refine s0_338 (fun h => absurd h (by decide)) (fun _ => ?_)
  refine s0_341 ?_
  refine s0_342 ?_
  refine s0_343 ?_
  refine s0_349 rfl ?_
  refine s0_351 ?_
  refine s0_353 (fun h => absurd h (by decide)) (fun _ => ?_)
  refine s0_356 ?_
  refine s0_358 ?_
  refine s0_376 rfl ?_
  refine s0_378 ?_
  refine s0_380 ?_
  refine s0_382 (fun h => absurd h (by decide)) (fun _ => ?_)
  refine s0_385 ?_
  refine s0_387 ?_
  refine s0_388 ?_
  refine s0_389 rfl (own_r23 a b c pd w) rfl ?_
  refine s0_392 ?_
  refine s0_394c (fun h => absurd h (by decide)) (fun _ => ?_)
  refine s0_398 ?_
  refine s0_400 ?_
  refine s0_401 ?_
  refine s0_402 rfl (own_r24 a b c pd w) rfl ?_
  refine s0_405 ?_
  refine s0_407c (fun h => absurd h (by decide)) (fun _ => ?_)
  refine s0_411 ?_
  refine s0_413 ?_
  refine s0_414 ?_
  refine s0_415 rfl (own_r25 a b c pd w) rfl ?_
  refine s0_418 ?_
  refine s0_420c (fun h => absurd rfl h) (fun _ => ?_)
  refine s0_424 ?_
  refine s0_425 ?_
  exact s0_429 rfl
set_option maxHeartbeats 4000000 in
theorem own_c10kk (a b c pd : Int32) (w : Int64) (flags : Int32) (hb : ¬ w < b.toInt64 - pd.toInt64) (hc : ¬ w < c.toInt64 - pd.toInt64) : W0 room_1 57 [.val (.int a), .val (.int b), .val (.int c), .val (.int pd), .val (.long w), .second, .val (.int flags), .val (.int 0), .val (.int 1), .val (.int 1), .val (.int 1), .unset, .unset, .unset, .unset, .unset, .unset, .unset, .unset, .unset, .unset, .unset, .unset, .unset, .unset, .unset] [] [] (fun r _ => r = some (.int 1)) := by
  refine s0_57 ?_
  refine s0_58 0 2 (by decide) rfl rfl ?_
  refine s0_60 rfl ?_
  refine s0_61 ?_
  refine s0_62 ?_
  refine s0_63 0 rfl (by decide) rfl ?_
  refine s0_64 rfl ?_
  refine s0_65 ?_
  refine s0_66 ?_
  refine s0_67 1 rfl (by decide) rfl ?_
  refine s0_68 rfl ?_
  refine s0_70 ?_
  refine s0_71 1 2 (by decide) rfl rfl ?_
  refine s0_73 rfl ?_
  refine s0_74 ?_
  refine s0_75 ?_
  refine s0_76 0 rfl (by decide) rfl ?_
  refine s0_77 rfl ?_
  refine s0_78 ?_
  refine s0_79 ?_
  refine s0_80 1 rfl (by decide) rfl ?_
  refine s0_81 rfl ?_
  refine s0_83 2 rfl rfl ?_
  refine s0_86 rfl ?_
  refine s0_87 ?_
  refine s0_89 ?_
  refine s0_91 ?_
  refine s0_93 (own_r2 a b c pd w) rfl ?_
  refine s0_96 rfl ?_
  refine s0_98 ?_
  refine s0_100 (fun h => absurd h (by decide)) (fun _ => ?_)
  refine s0_103 ?_
  refine s0_105 ?_
  refine s0_106 rfl (own_r8 a b c pd w) rfl ?_
  refine s0_109 ?_
  refine s0_111 ?_
  refine s0_112 ?_
  refine s0_113 ?_
  refine s0_114 rfl (own_r10 a b c pd w) rfl ?_
  refine s0_117 ?_
  refine s0_119 (fun _ => ?_) (fun h => absurd h (by decide))
  refine s0_136 ?_
  refine s0_138 (fun h => absurd h (by decide)) (fun _ => ?_)
  refine s0_141 ?_
  refine s0_143 ?_
  refine s0_144 rfl (own_r26 a b c pd w) rfl ?_
  refine s0_147 ?_
  refine s0_149 ?_
  refine s0_150 ?_
  refine s0_151 ?_
  refine s0_152 rfl (own_r28 a b c pd w) rfl ?_
  refine s0_155 ?_
  refine s0_157 (fun h => absurd h (by decide)) (fun _ => ?_)
  refine s0_160 ?_
  refine s0_161 ?_
  refine s0_165 rfl ?_
  refine s0_167 ?_
  refine s0_169 ?_
  refine s0_171 ?_
  refine s0_172 rfl (own_r131 a b c pd w hb hc) rfl ?_
  refine s0_175 rfl ?_
  refine s0_177 ?_
  refine s0_179 (fun h => absurd h (by decide)) (fun _ => ?_)
  refine s0_182 ?_
  refine s0_183 ?_
  refine s0_184 ?_
  refine s0_186 (own_fit1 _ _ _ _ hc) rfl ?_
  refine s0_189 (fun h => absurd h (by decide)) (fun _ => ?_)
  refine s0_192 ?_
  refine s0_193 ?_
  refine s0_197 rfl ?_
  refine s0_199 ?_
  refine s0_201 (fun _ => ?_) (fun h => absurd h (by decide))
  refine s0_218 ?_
  refine s0_219 rfl ?_
  refine s0_221 ?_
  refine s0_223 (fun h => absurd h (by decide)) (fun _ => ?_)
  refine s0_226 ?_
  refine s0_227 ?_
  refine s0_228 ?_
  refine s0_230 (own_fit1 _ _ _ _ hb) rfl ?_
  refine s0_233 (fun h => absurd h (by decide)) (fun _ => ?_)
  refine s0_236 ?_
  refine s0_237 ?_
  refine s0_241 rfl ?_
  refine s0_243 ?_
  refine s0_245 (fun h => absurd h (by decide)) (fun _ => ?_)
  refine s0_248 ?_
  refine s0_250 (fun h => absurd h (by decide)) (fun _ => ?_)
  refine s0_253 ?_
  refine s0_254 ?_
  refine s0_255 ?_
  refine s0_277 rfl ?_
  refine s0_279 ?_
  refine s0_281 (fun _ => ?_) (fun h => absurd h (by decide))
  refine s0_300 ?_
  refine s0_302 (fun _ => ?_) (fun h => absurd h (by decide))
  refine s0_310 ?_
  refine s0_313 rfl ?_
  refine s0_315 ?_
  refine s0_317 (fun _ => ?_) (fun h => absurd h (by decide))
  refine s0_336 ?_
  refine s0_338 (fun h => absurd h (by decide)) (fun _ => ?_)
  refine s0_341 ?_
  refine s0_342 ?_
  refine s0_343 ?_
  refine s0_349 rfl ?_
  refine s0_351 ?_
  refine s0_353 (fun h => absurd h (by decide)) (fun _ => ?_)
  refine s0_356 ?_
  refine s0_358 ?_
  refine s0_376 rfl ?_
  refine s0_378 ?_
  refine s0_380 ?_
  refine s0_382 (fun h => absurd h (by decide)) (fun _ => ?_)
  refine s0_385 ?_
  refine s0_387 ?_
  refine s0_388 ?_
  refine s0_389 rfl (own_r31 a b c pd w) rfl ?_
  refine s0_392 ?_
  refine s0_394c (fun h => absurd rfl h) (fun _ => ?_)
  refine s0_398 ?_
  refine s0_400 ?_
  refine s0_401 ?_
  refine s0_402 rfl (own_r32 a b c pd w) rfl ?_
  refine s0_405 ?_
  refine s0_407c (fun h => absurd h (by decide)) (fun _ => ?_)
  refine s0_411 ?_
  refine s0_413 ?_
  refine s0_414 ?_
  refine s0_415 rfl (own_r33 a b c pd w) rfl ?_
  refine s0_418 ?_
  refine s0_420c (fun h => absurd rfl h) (fun _ => ?_)
  refine s0_424 ?_
  refine s0_425 ?_
  exact s0_429 rfl
set_option maxHeartbeats 4000000 in
theorem own_c10kd (a b c pd : Int32) (w : Int64) (flags : Int32) (hb : ¬ w < b.toInt64 - pd.toInt64) (hc : w < c.toInt64 - pd.toInt64) : W0 room_1 57 [.val (.int a), .val (.int b), .val (.int c), .val (.int pd), .val (.long w), .second, .val (.int flags), .val (.int 0), .val (.int 1), .val (.int 1), .val (.int 1), .unset, .unset, .unset, .unset, .unset, .unset, .unset, .unset, .unset, .unset, .unset, .unset, .unset, .unset, .unset] [] [] (fun r _ => r = some (.int 1)) := by
  refine s0_57 ?_
  refine s0_58 0 2 (by decide) rfl rfl ?_
  refine s0_60 rfl ?_
  refine s0_61 ?_
  refine s0_62 ?_
  refine s0_63 0 rfl (by decide) rfl ?_
  refine s0_64 rfl ?_
  refine s0_65 ?_
  refine s0_66 ?_
  refine s0_67 1 rfl (by decide) rfl ?_
  refine s0_68 rfl ?_
  refine s0_70 ?_
  refine s0_71 1 2 (by decide) rfl rfl ?_
  refine s0_73 rfl ?_
  refine s0_74 ?_
  refine s0_75 ?_
  refine s0_76 0 rfl (by decide) rfl ?_
  refine s0_77 rfl ?_
  refine s0_78 ?_
  refine s0_79 ?_
  refine s0_80 1 rfl (by decide) rfl ?_
  refine s0_81 rfl ?_
  refine s0_83 2 rfl rfl ?_
  refine s0_86 rfl ?_
  refine s0_87 ?_
  refine s0_89 ?_
  refine s0_91 ?_
  refine s0_93 (own_r2 a b c pd w) rfl ?_
  refine s0_96 rfl ?_
  refine s0_98 ?_
  refine s0_100 (fun h => absurd h (by decide)) (fun _ => ?_)
  refine s0_103 ?_
  refine s0_105 ?_
  refine s0_106 rfl (own_r8 a b c pd w) rfl ?_
  refine s0_109 ?_
  refine s0_111 ?_
  refine s0_112 ?_
  refine s0_113 ?_
  refine s0_114 rfl (own_r10 a b c pd w) rfl ?_
  refine s0_117 ?_
  refine s0_119 (fun _ => ?_) (fun h => absurd h (by decide))
  refine s0_136 ?_
  refine s0_138 (fun h => absurd h (by decide)) (fun _ => ?_)
  refine s0_141 ?_
  refine s0_143 ?_
  refine s0_144 rfl (own_r26 a b c pd w) rfl ?_
  refine s0_147 ?_
  refine s0_149 ?_
  refine s0_150 ?_
  refine s0_151 ?_
  refine s0_152 rfl (own_r28 a b c pd w) rfl ?_
  refine s0_155 ?_
  refine s0_157 (fun h => absurd h (by decide)) (fun _ => ?_)
  refine s0_160 ?_
  refine s0_161 ?_
  refine s0_165 rfl ?_
  refine s0_167 ?_
  refine s0_169 ?_
  refine s0_171 ?_
  refine s0_172 rfl (own_r133 a b c pd w hb hc) rfl ?_
  refine s0_175 rfl ?_
  refine s0_177 ?_
  refine s0_179 (fun h => absurd h (by decide)) (fun _ => ?_)
  refine s0_182 ?_
  refine s0_183 ?_
  refine s0_184 ?_
  refine s0_186 (own_fit0 _ _ _ _ hc) rfl ?_
  refine s0_189 (fun _ => ?_) (fun h => absurd h (by decide))
  refine s0_196 ?_
  refine s0_197 rfl ?_
  refine s0_199 ?_
  refine s0_201 (fun _ => ?_) (fun h => absurd h (by decide))
  refine s0_218 ?_
  refine s0_219 rfl ?_
  refine s0_221 ?_
  refine s0_223 (fun h => absurd h (by decide)) (fun _ => ?_)
  refine s0_226 ?_
  refine s0_227 ?_
  refine s0_228 ?_
  refine s0_230 (own_fit1 _ _ _ _ hb) rfl ?_
  refine s0_233 (fun h => absurd h (by decide)) (fun _ => ?_)
  refine s0_236 ?_
  refine s0_237 ?_
  refine s0_241 rfl ?_
  refine s0_243 ?_
  refine s0_245 (fun h => absurd h (by decide)) (fun _ => ?_)
  refine s0_248 ?_
  refine s0_250 (fun _ => ?_) (fun h => absurd h (by decide))
  refine s0_258 ?_
  refine s0_261 ?_
  refine s0_277 rfl ?_
  refine s0_279 ?_
  refine s0_281 (fun _ => ?_) (fun h => absurd h (by decide))
  refine s0_300 ?_
  refine s0_302 (fun _ => ?_) (fun h => absurd h (by decide))
  refine s0_310 ?_
  refine s0_313 rfl ?_
  refine s0_315 ?_
  refine s0_317 (fun _ => ?_) (fun h => absurd h (by decide))
  refine s0_336 ?_
  refine s0_338 (fun h => absurd h (by decide)) (fun _ => ?_)
  refine s0_341 ?_
  refine s0_342 ?_
  refine s0_343 ?_
  refine s0_349 rfl ?_
  refine s0_351 ?_
  refine s0_353 (fun h => absurd h (by decide)) (fun _ => ?_)
  refine s0_356 ?_
  refine s0_358 ?_
  refine s0_376 rfl ?_
  refine s0_378 ?_
  refine s0_380 ?_
  refine s0_382 (fun h => absurd h (by decide)) (fun _ => ?_)
  refine s0_385 ?_
  refine s0_387 ?_
  refine s0_388 ?_
  refine s0_389 rfl (own_r23 a b c pd w) rfl ?_
  refine s0_392 ?_
  refine s0_394c (fun h => absurd h (by decide)) (fun _ => ?_)
  refine s0_398 ?_
  refine s0_400 ?_
  refine s0_401 ?_
  refine s0_402 rfl (own_r24 a b c pd w) rfl ?_
  refine s0_405 ?_
  refine s0_407c (fun h => absurd h (by decide)) (fun _ => ?_)
  refine s0_411 ?_
  refine s0_413 ?_
  refine s0_414 ?_
  refine s0_415 rfl (own_r25 a b c pd w) rfl ?_
  refine s0_418 ?_
  refine s0_420c (fun h => absurd rfl h) (fun _ => ?_)
  refine s0_424 ?_
  refine s0_425 ?_
  exact s0_429 rfl
set_option maxHeartbeats 4000000 in
theorem own_c10d0 (a b c pd : Int32) (w : Int64) (flags : Int32) (hb : w < b.toInt64 - pd.toInt64) : W0 room_1 57 [.val (.int a), .val (.int b), .val (.int c), .val (.int pd), .val (.long w), .second, .val (.int flags), .val (.int 0), .val (.int 1), .val (.int 0), .val (.int 1), .unset, .unset, .unset, .unset, .unset, .unset, .unset, .unset, .unset, .unset, .unset, .unset, .unset, .unset, .unset] [] [] (fun r _ => r = some (.int 1)) := by
  refine s0_57 ?_
  refine s0_58 0 2 (by decide) rfl rfl ?_
  refine s0_60 rfl ?_
  refine s0_61 ?_
  refine s0_62 ?_
  refine s0_63 0 rfl (by decide) rfl ?_
  refine s0_64 rfl ?_
  refine s0_65 ?_
  refine s0_66 ?_
  refine s0_67 1 rfl (by decide) rfl ?_
  refine s0_68 rfl ?_
  refine s0_70 ?_
  refine s0_71 1 2 (by decide) rfl rfl ?_
  refine s0_73 rfl ?_
  refine s0_74 ?_
  refine s0_75 ?_
  refine s0_76 0 rfl (by decide) rfl ?_
  refine s0_77 rfl ?_
  refine s0_78 ?_
  refine s0_79 ?_
  refine s0_80 1 rfl (by decide) rfl ?_
  refine s0_81 rfl ?_
  refine s0_83 2 rfl rfl ?_
  refine s0_86 rfl ?_
  refine s0_87 ?_
  refine s0_89 ?_
  refine s0_91 ?_
  refine s0_93 (own_r2 a b c pd w) rfl ?_
  refine s0_96 rfl ?_
  refine s0_98 ?_
  refine s0_100 (fun _ => ?_) (fun h => absurd h (by decide))
  refine s0_117 ?_
  refine s0_119 (fun _ => ?_) (fun h => absurd h (by decide))
  refine s0_136 ?_
  refine s0_138 (fun h => absurd h (by decide)) (fun _ => ?_)
  refine s0_141 ?_
  refine s0_143 ?_
  refine s0_144 rfl (own_r18 a b c pd w) rfl ?_
  refine s0_147 ?_
  refine s0_149 ?_
  refine s0_150 ?_
  refine s0_151 ?_
  refine s0_152 rfl (own_r20 a b c pd w) rfl ?_
  refine s0_155 ?_
  refine s0_157 (fun h => absurd h (by decide)) (fun _ => ?_)
  refine s0_160 ?_
  refine s0_161 ?_
  refine s0_165 rfl ?_
  refine s0_167 ?_
  refine s0_169 ?_
  refine s0_171 ?_
  refine s0_172 rfl (own_r135 a b c pd w hb) rfl ?_
  refine s0_175 rfl ?_
  refine s0_177 ?_
  refine s0_179 (fun _ => ?_) (fun h => absurd h (by decide))
  refine s0_196 ?_
  refine s0_197 rfl ?_
  refine s0_199 ?_
  refine s0_201 (fun _ => ?_) (fun h => absurd h (by decide))
  refine s0_218 ?_
  refine s0_219 rfl ?_
  refine s0_221 ?_
  refine s0_223 (fun h => absurd h (by decide)) (fun _ => ?_)
  refine s0_226 ?_
  refine s0_227 ?_
  refine s0_228 ?_
  refine s0_230 (own_fit0 _ _ _ _ hb) rfl ?_
  refine s0_233 (fun _ => ?_) (fun h => absurd h (by decide))
  refine s0_240 ?_
  refine s0_241 rfl ?_
  refine s0_243 ?_
  refine s0_245 (fun h => absurd h (by decide)) (fun _ => ?_)
  refine s0_248 ?_
  refine s0_250 (fun _ => ?_) (fun h => absurd h (by decide))
  refine s0_258 ?_
  refine s0_261 ?_
  refine s0_277 rfl ?_
  refine s0_279 ?_
  refine s0_281 (fun _ => ?_) (fun h => absurd h (by decide))
  refine s0_300 ?_
  refine s0_302 (fun _ => ?_) (fun h => absurd h (by decide))
  refine s0_310 ?_
  refine s0_313 rfl ?_
  refine s0_315 ?_
  refine s0_317 (fun _ => ?_) (fun h => absurd h (by decide))
  refine s0_336 ?_
  refine s0_338 (fun h => absurd h (by decide)) (fun _ => ?_)
  refine s0_341 ?_
  refine s0_342 ?_
  refine s0_343 ?_
  refine s0_349 rfl ?_
  refine s0_351 ?_
  refine s0_353 (fun h => absurd h (by decide)) (fun _ => ?_)
  refine s0_356 ?_
  refine s0_358 ?_
  refine s0_376 rfl ?_
  refine s0_378 ?_
  refine s0_380 ?_
  refine s0_382 (fun h => absurd h (by decide)) (fun _ => ?_)
  refine s0_385 ?_
  refine s0_387 ?_
  refine s0_388 ?_
  refine s0_389 rfl (own_r23 a b c pd w) rfl ?_
  refine s0_392 ?_
  refine s0_394c (fun h => absurd h (by decide)) (fun _ => ?_)
  refine s0_398 ?_
  refine s0_400 ?_
  refine s0_401 ?_
  refine s0_402 rfl (own_r24 a b c pd w) rfl ?_
  refine s0_405 ?_
  refine s0_407c (fun h => absurd h (by decide)) (fun _ => ?_)
  refine s0_411 ?_
  refine s0_413 ?_
  refine s0_414 ?_
  refine s0_415 rfl (own_r25 a b c pd w) rfl ?_
  refine s0_418 ?_
  refine s0_420c (fun h => absurd rfl h) (fun _ => ?_)
  refine s0_424 ?_
  refine s0_425 ?_
  exact s0_429 rfl
set_option maxHeartbeats 4000000 in
theorem own_c10dk (a b c pd : Int32) (w : Int64) (flags : Int32) (hb : w < b.toInt64 - pd.toInt64) (hc : ¬ w < c.toInt64 - pd.toInt64) : W0 room_1 57 [.val (.int a), .val (.int b), .val (.int c), .val (.int pd), .val (.long w), .second, .val (.int flags), .val (.int 0), .val (.int 1), .val (.int 1), .val (.int 1), .unset, .unset, .unset, .unset, .unset, .unset, .unset, .unset, .unset, .unset, .unset, .unset, .unset, .unset, .unset] [] [] (fun r _ => r = some (.int 1)) := by
  refine s0_57 ?_
  refine s0_58 0 2 (by decide) rfl rfl ?_
  refine s0_60 rfl ?_
  refine s0_61 ?_
  refine s0_62 ?_
  refine s0_63 0 rfl (by decide) rfl ?_
  refine s0_64 rfl ?_
  refine s0_65 ?_
  refine s0_66 ?_
  refine s0_67 1 rfl (by decide) rfl ?_
  refine s0_68 rfl ?_
  refine s0_70 ?_
  refine s0_71 1 2 (by decide) rfl rfl ?_
  refine s0_73 rfl ?_
  refine s0_74 ?_
  refine s0_75 ?_
  refine s0_76 0 rfl (by decide) rfl ?_
  refine s0_77 rfl ?_
  refine s0_78 ?_
  refine s0_79 ?_
  refine s0_80 1 rfl (by decide) rfl ?_
  refine s0_81 rfl ?_
  refine s0_83 2 rfl rfl ?_
  refine s0_86 rfl ?_
  refine s0_87 ?_
  refine s0_89 ?_
  refine s0_91 ?_
  refine s0_93 (own_r2 a b c pd w) rfl ?_
  refine s0_96 rfl ?_
  refine s0_98 ?_
  refine s0_100 (fun h => absurd h (by decide)) (fun _ => ?_)
  refine s0_103 ?_
  refine s0_105 ?_
  refine s0_106 rfl (own_r8 a b c pd w) rfl ?_
  refine s0_109 ?_
  refine s0_111 ?_
  refine s0_112 ?_
  refine s0_113 ?_
  refine s0_114 rfl (own_r10 a b c pd w) rfl ?_
  refine s0_117 ?_
  refine s0_119 (fun _ => ?_) (fun h => absurd h (by decide))
  refine s0_136 ?_
  refine s0_138 (fun h => absurd h (by decide)) (fun _ => ?_)
  refine s0_141 ?_
  refine s0_143 ?_
  refine s0_144 rfl (own_r26 a b c pd w) rfl ?_
  refine s0_147 ?_
  refine s0_149 ?_
  refine s0_150 ?_
  refine s0_151 ?_
  refine s0_152 rfl (own_r28 a b c pd w) rfl ?_
  refine s0_155 ?_
  refine s0_157 (fun h => absurd h (by decide)) (fun _ => ?_)
  refine s0_160 ?_
  refine s0_161 ?_
  refine s0_165 rfl ?_
  refine s0_167 ?_
  refine s0_169 ?_
  refine s0_171 ?_
  refine s0_172 rfl (own_r137 a b c pd w hb hc) rfl ?_
  refine s0_175 rfl ?_
  refine s0_177 ?_
  refine s0_179 (fun h => absurd h (by decide)) (fun _ => ?_)
  refine s0_182 ?_
  refine s0_183 ?_
  refine s0_184 ?_
  refine s0_186 (own_fit1 _ _ _ _ hc) rfl ?_
  refine s0_189 (fun h => absurd h (by decide)) (fun _ => ?_)
  refine s0_192 ?_
  refine s0_193 ?_
  refine s0_197 rfl ?_
  refine s0_199 ?_
  refine s0_201 (fun _ => ?_) (fun h => absurd h (by decide))
  refine s0_218 ?_
  refine s0_219 rfl ?_
  refine s0_221 ?_
  refine s0_223 (fun h => absurd h (by decide)) (fun _ => ?_)
  refine s0_226 ?_
  refine s0_227 ?_
  refine s0_228 ?_
  refine s0_230 (own_fit0 _ _ _ _ hb) rfl ?_
  refine s0_233 (fun _ => ?_) (fun h => absurd h (by decide))
  refine s0_240 ?_
  refine s0_241 rfl ?_
  refine s0_243 ?_
  refine s0_245 (fun h => absurd h (by decide)) (fun _ => ?_)
  refine s0_248 ?_
  refine s0_250 (fun h => absurd h (by decide)) (fun _ => ?_)
  refine s0_253 ?_
  refine s0_254 ?_
  refine s0_255 ?_
  refine s0_277 rfl ?_
  refine s0_279 ?_
  refine s0_281 (fun _ => ?_) (fun h => absurd h (by decide))
  refine s0_300 ?_
  refine s0_302 (fun _ => ?_) (fun h => absurd h (by decide))
  refine s0_310 ?_
  refine s0_313 rfl ?_
  refine s0_315 ?_
  refine s0_317 (fun _ => ?_) (fun h => absurd h (by decide))
  refine s0_336 ?_
  refine s0_338 (fun h => absurd h (by decide)) (fun _ => ?_)
  refine s0_341 ?_
  refine s0_342 ?_
  refine s0_343 ?_
  refine s0_349 rfl ?_
  refine s0_351 ?_
  refine s0_353 (fun h => absurd h (by decide)) (fun _ => ?_)
  refine s0_356 ?_
  refine s0_358 ?_
  refine s0_376 rfl ?_
  refine s0_378 ?_
  refine s0_380 ?_
  refine s0_382 (fun h => absurd h (by decide)) (fun _ => ?_)
  refine s0_385 ?_
  refine s0_387 ?_
  refine s0_388 ?_
  refine s0_389 rfl (own_r31 a b c pd w) rfl ?_
  refine s0_392 ?_
  refine s0_394c (fun h => absurd rfl h) (fun _ => ?_)
  refine s0_398 ?_
  refine s0_400 ?_
  refine s0_401 ?_
  refine s0_402 rfl (own_r32 a b c pd w) rfl ?_
  refine s0_405 ?_
  refine s0_407c (fun h => absurd h (by decide)) (fun _ => ?_)
  refine s0_411 ?_
  refine s0_413 ?_
  refine s0_414 ?_
  refine s0_415 rfl (own_r33 a b c pd w) rfl ?_
  refine s0_418 ?_
  refine s0_420c (fun h => absurd rfl h) (fun _ => ?_)
  refine s0_424 ?_
  refine s0_425 ?_
  exact s0_429 rfl
set_option maxHeartbeats 4000000 in
theorem own_c10dd (a b c pd : Int32) (w : Int64) (flags : Int32) (hb : w < b.toInt64 - pd.toInt64) (hc : w < c.toInt64 - pd.toInt64) : W0 room_1 57 [.val (.int a), .val (.int b), .val (.int c), .val (.int pd), .val (.long w), .second, .val (.int flags), .val (.int 0), .val (.int 1), .val (.int 1), .val (.int 1), .unset, .unset, .unset, .unset, .unset, .unset, .unset, .unset, .unset, .unset, .unset, .unset, .unset, .unset, .unset] [] [] (fun r _ => r = some (.int 1)) := by
  refine s0_57 ?_
  refine s0_58 0 2 (by decide) rfl rfl ?_
  refine s0_60 rfl ?_
  refine s0_61 ?_
  refine s0_62 ?_
  refine s0_63 0 rfl (by decide) rfl ?_
  refine s0_64 rfl ?_
  refine s0_65 ?_
  refine s0_66 ?_
  refine s0_67 1 rfl (by decide) rfl ?_
  refine s0_68 rfl ?_
  refine s0_70 ?_
  refine s0_71 1 2 (by decide) rfl rfl ?_
  refine s0_73 rfl ?_
  refine s0_74 ?_
  refine s0_75 ?_
  refine s0_76 0 rfl (by decide) rfl ?_
  refine s0_77 rfl ?_
  refine s0_78 ?_
  refine s0_79 ?_
  refine s0_80 1 rfl (by decide) rfl ?_
  refine s0_81 rfl ?_
  refine s0_83 2 rfl rfl ?_
  refine s0_86 rfl ?_
  refine s0_87 ?_
  refine s0_89 ?_
  refine s0_91 ?_
  refine s0_93 (own_r2 a b c pd w) rfl ?_
  refine s0_96 rfl ?_
  refine s0_98 ?_
  refine s0_100 (fun h => absurd h (by decide)) (fun _ => ?_)
  refine s0_103 ?_
  refine s0_105 ?_
  refine s0_106 rfl (own_r8 a b c pd w) rfl ?_
  refine s0_109 ?_
  refine s0_111 ?_
  refine s0_112 ?_
  refine s0_113 ?_
  refine s0_114 rfl (own_r10 a b c pd w) rfl ?_
  refine s0_117 ?_
  refine s0_119 (fun _ => ?_) (fun h => absurd h (by decide))
  refine s0_136 ?_
  refine s0_138 (fun h => absurd h (by decide)) (fun _ => ?_)
  refine s0_141 ?_
  refine s0_143 ?_
  refine s0_144 rfl (own_r26 a b c pd w) rfl ?_
  refine s0_147 ?_
  refine s0_149 ?_
  refine s0_150 ?_
  refine s0_151 ?_
  refine s0_152 rfl (own_r28 a b c pd w) rfl ?_
  refine s0_155 ?_
  refine s0_157 (fun h => absurd h (by decide)) (fun _ => ?_)
  refine s0_160 ?_
  refine s0_161 ?_
  refine s0_165 rfl ?_
  refine s0_167 ?_
  refine s0_169 ?_
  refine s0_171 ?_
  refine s0_172 rfl (own_r139 a b c pd w hb hc) rfl ?_
  refine s0_175 rfl ?_
  refine s0_177 ?_
  refine s0_179 (fun h => absurd h (by decide)) (fun _ => ?_)
  refine s0_182 ?_
  refine s0_183 ?_
  refine s0_184 ?_
  refine s0_186 (own_fit0 _ _ _ _ hc) rfl ?_
  refine s0_189 (fun _ => ?_) (fun h => absurd h (by decide))
  refine s0_196 ?_
  refine s0_197 rfl ?_
  refine s0_199 ?_
  refine s0_201 (fun _ => ?_) (fun h => absurd h (by decide))
  refine s0_218 ?_
  refine s0_219 rfl ?_
  refine s0_221 ?_
  refine s0_223 (fun h => absurd h (by decide)) (fun _ => ?_)
  refine s0_226 ?_
  refine s0_227 ?_
  refine s0_228 ?_
  refine s0_230 (own_fit0 _ _ _ _ hb) rfl ?_
  refine s0_233 (fun _ => ?_) (fun h => absurd h (by decide))
  refine s0_240 ?_
  refine s0_241 rfl ?_
  refine s0_243 ?_
  refine s0_245 (fun h => absurd h (by decide)) (fun _ => ?_)
  refine s0_248 ?_
  refine s0_250 (fun _ => ?_) (fun h => absurd h (by decide))
  refine s0_258 ?_
  refine s0_261 ?_
  refine s0_277 rfl ?_
  refine s0_279 ?_
  refine s0_281 (fun _ => ?_) (fun h => absurd h (by decide))
  refine s0_300 ?_
  refine s0_302 (fun _ => ?_) (fun h => absurd h (by decide))
  refine s0_310 ?_
  refine s0_313 rfl ?_
  refine s0_315 ?_
  refine s0_317 (fun _ => ?_) (fun h => absurd h (by decide))
  refine s0_336 ?_
  refine s0_338 (fun h => absurd h (by decide)) (fun _ => ?_)
  refine s0_341 ?_
  refine s0_342 ?_
  refine s0_343 ?_
  refine s0_349 rfl ?_
  refine s0_351 ?_
  refine s0_353 (fun h => absurd h (by decide)) (fun _ => ?_)
  refine s0_356 ?_
  refine s0_358 ?_
  refine s0_376 rfl ?_
  refine s0_378 ?_
  refine s0_380 ?_
  refine s0_382 (fun h => absurd h (by decide)) (fun _ => ?_)
  refine s0_385 ?_
  refine s0_387 ?_
  refine s0_388 ?_
  refine s0_389 rfl (own_r23 a b c pd w) rfl ?_
  refine s0_392 ?_
  refine s0_394c (fun h => absurd h (by decide)) (fun _ => ?_)
  refine s0_398 ?_
  refine s0_400 ?_
  refine s0_401 ?_
  refine s0_402 rfl (own_r24 a b c pd w) rfl ?_
  refine s0_405 ?_
  refine s0_407c (fun h => absurd h (by decide)) (fun _ => ?_)
  refine s0_411 ?_
  refine s0_413 ?_
  refine s0_414 ?_
  refine s0_415 rfl (own_r25 a b c pd w) rfl ?_
  refine s0_418 ?_
  refine s0_420c (fun h => absurd rfl h) (fun _ => ?_)
  refine s0_424 ?_
  refine s0_425 ?_
  exact s0_429 rfl
set_option maxHeartbeats 4000000 in
theorem own_c1k00 (a b c pd : Int32) (w : Int64) (flags : Int32) (ha : ¬ w < a.toInt64 - pd.toInt64) : W0 room_1 57 [.val (.int a), .val (.int b), .val (.int c), .val (.int pd), .val (.long w), .second, .val (.int flags), .val (.int 1), .val (.int 0), .val (.int 0), .val (.int 1), .unset, .unset, .unset, .unset, .unset, .unset, .unset, .unset, .unset, .unset, .unset, .unset, .unset, .unset, .unset] [] [] (fun r _ => r = some (.int 1)) := by
  refine s0_57 ?_
  refine s0_58 0 2 (by decide) rfl rfl ?_
  refine s0_60 rfl ?_
  refine s0_61 ?_
  refine s0_62 ?_
  refine s0_63 0 rfl (by decide) rfl ?_
  refine s0_64 rfl ?_
  refine s0_65 ?_
  refine s0_66 ?_
  refine s0_67 1 rfl (by decide) rfl ?_
  refine s0_68 rfl ?_
  refine s0_70 ?_
  refine s0_71 1 2 (by decide) rfl rfl ?_
  refine s0_73 rfl ?_
  refine s0_74 ?_
  refine s0_75 ?_
  refine s0_76 0 rfl (by decide) rfl ?_
  refine s0_77 rfl ?_
  refine s0_78 ?_
  refine s0_79 ?_
  refine s0_80 1 rfl (by decide) rfl ?_
  refine s0_81 rfl ?_
  refine s0_83 2 rfl rfl ?_
  refine s0_86 rfl ?_
  refine s0_87 ?_
  refine s0_89 ?_
  refine s0_91 ?_
  refine s0_93 (own_r2 a b c pd w) rfl ?_
  refine s0_96 rfl ?_
  refine s0_98 ?_
  refine s0_100 (fun _ => ?_) (fun h => absurd h (by decide))
  refine s0_117 ?_
  refine s0_119 (fun h => absurd h (by decide)) (fun _ => ?_)
  refine s0_122 ?_
  refine s0_124 ?_
  refine s0_125 rfl (own_r48 a b c pd w) rfl ?_
  refine s0_128 ?_
  refine s0_130 ?_
  refine s0_131 ?_
  refine s0_132 ?_
  refine s0_133 rfl (own_r50 a b c pd w) rfl ?_
  refine s0_136 ?_
  refine s0_138 (fun _ => ?_) (fun h => absurd h (by decide))
  refine s0_155 ?_
  refine s0_157 (fun h => absurd h (by decide)) (fun _ => ?_)
  refine s0_160 ?_
  refine s0_161 ?_
  refine s0_165 rfl ?_
  refine s0_167 ?_
  refine s0_169 ?_
  refine s0_171 ?_
  refine s0_172 rfl (own_r141 a b c pd w ha) rfl ?_
  refine s0_175 rfl ?_
  refine s0_177 ?_
  refine s0_179 (fun _ => ?_) (fun h => absurd h (by decide))
  refine s0_196 ?_
  refine s0_197 rfl ?_
  refine s0_199 ?_
  refine s0_201 (fun h => absurd h (by decide)) (fun _ => ?_)
  refine s0_204 ?_
  refine s0_205 ?_
  refine s0_206 ?_
  refine s0_208 (own_fit1 _ _ _ _ ha) rfl ?_
  refine s0_211 (fun h => absurd h (by decide)) (fun _ => ?_)
  refine s0_214 ?_
  refine s0_215 ?_
  refine s0_219 rfl ?_
  refine s0_221 ?_
  refine s0_223 (fun _ => ?_) (fun h => absurd h (by decide))
  refine s0_240 ?_
  refine s0_241 rfl ?_
  refine s0_243 ?_
  refine s0_245 (fun h => absurd h (by decide)) (fun _ => ?_)
  refine s0_248 ?_
  refine s0_250 (fun _ => ?_) (fun h => absurd h (by decide))
  refine s0_258 ?_
  refine s0_261 ?_
  refine s0_277 rfl ?_
  refine s0_279 ?_
  refine s0_281 (fun _ => ?_) (fun h => absurd h (by decide))
  refine s0_300 ?_
  refine s0_302 (fun h => absurd h (by decide)) (fun _ => ?_)
  refine s0_305 ?_
  refine s0_306 ?_
  refine s0_307 ?_
  refine s0_313 rfl ?_
  refine s0_315 ?_
  refine s0_317 (fun _ => ?_) (fun h => absurd h (by decide))
  refine s0_336 ?_
  refine s0_338 (fun _ => ?_) (fun h => absurd h (by decide))
  refine s0_346 ?_
  refine s0_349 rfl ?_
  refine s0_351 ?_
  refine s0_353 (fun h => absurd h (by decide)) (fun _ => ?_)
  refine s0_356 ?_
  refine s0_358 ?_
  refine s0_376 rfl ?_
  refine s0_378 ?_
  refine s0_380 ?_
  refine s0_382 (fun h => absurd h (by decide)) (fun _ => ?_)
  refine s0_385 ?_
  refine s0_387 ?_
  refine s0_388 ?_
  refine s0_389 rfl (own_r53 a b c pd w) rfl ?_
  refine s0_392 ?_
  refine s0_394c (fun h => absurd h (by decide)) (fun _ => ?_)
  refine s0_398 ?_
  refine s0_400 ?_
  refine s0_401 ?_
  refine s0_402 rfl (own_r54 a b c pd w) rfl ?_
  refine s0_405 ?_
  refine s0_407c (fun h => absurd rfl h) (fun _ => ?_)
  refine s0_411 ?_
  refine s0_413 ?_
  refine s0_414 ?_
  refine s0_415 rfl (own_r55 a b c pd w) rfl ?_
  refine s0_418 ?_
  refine s0_420c (fun h => absurd h (by decide)) (fun _ => ?_)
  refine s0_424 ?_
  refine s0_425 ?_
  exact s0_429 rfl
set_option maxHeartbeats 4000000 in
theorem own_c1k0k (a b c pd : Int32) (w : Int64) (flags : Int32) (ha : ¬ w < a.toInt64 - pd.toInt64) (hc : ¬ w < c.toInt64 - pd.toInt64) : W0 room_1 57 [.val (.int a), .val (.int b), .val (.int c), .val (.int pd), .val (.long w), .second, .val (.int flags), .val (.int 1), .val (.int 0), .val (.int 1), .val (.int 1), .unset, .unset, .unset, .unset, .unset, .unset, .unset, .unset, .unset, .unset, .unset, .unset, .unset, .unset, .unset] [] [] (fun r _ => r = some (.int 1)) := by
  refine s0_57 ?_
  refine s0_58 0 2 (by decide) rfl rfl ?_
  refine s0_60 rfl ?_
  refine s0_61 ?_
  refine s0_62 ?_
  refine s0_63 0 rfl (by decide) rfl ?_
  refine s0_64 rfl ?_
  refine s0_65 ?_
  refine s0_66 ?_
  refine s0_67 1 rfl (by decide) rfl ?_
  refine s0_68 rfl ?_
  refine s0_70 ?_
  refine s0_71 1 2 (by decide) rfl rfl ?_
  refine s0_73 rfl ?_
  refine s0_74 ?_
  refine s0_75 ?_
  refine s0_76 0 rfl (by decide) rfl ?_
  refine s0_77 rfl ?_
  refine s0_78 ?_
  refine s0_79 ?_
  refine s0_80 1 rfl (by decide) rfl ?_
  refine s0_81 rfl ?_
  refine s0_83 2 rfl rfl ?_
  refine s0_86 rfl ?_
  refine s0_87 ?_
  refine s0_89 ?_
  refine s0_91 ?_
  refine s0_93 (own_r2 a b c pd w) rfl ?_
  refine s0_96 rfl ?_
  refine s0_98 ?_
  refine s0_100 (fun h => absurd h (by decide)) (fun _ => ?_)
  refine s0_103 ?_
  refine s0_105 ?_
  refine s0_106 rfl (own_r8 a b c pd w) rfl ?_
  refine s0_109 ?_
  refine s0_111 ?_
  refine s0_112 ?_
  refine s0_113 ?_
  refine s0_114 rfl (own_r10 a b c pd w) rfl ?_
  refine s0_117 ?_
  refine s0_119 (fun h => absurd h (by decide)) (fun _ => ?_)
  refine s0_122 ?_
  refine s0_124 ?_
  refine s0_125 rfl (own_r56 a b c pd w) rfl ?_
  refine s0_128 ?_
  refine s0_130 ?_
  refine s0_131 ?_
  refine s0_132 ?_
  refine s0_133 rfl (own_r58 a b c pd w) rfl ?_
  refine s0_136 ?_
  refine s0_138 (fun _ => ?_) (fun h => absurd h (by decide))
  refine s0_155 ?_
  refine s0_157 (fun h => absurd h (by decide)) (fun _ => ?_)
  refine s0_160 ?_
  refine s0_161 ?_
  refine s0_165 rfl ?_
  refine s0_167 ?_
  refine s0_169 ?_
  refine s0_171 ?_
  refine s0_172 rfl (own_r143 a b c pd w ha hc) rfl ?_
  refine s0_175 rfl ?_
  refine s0_177 ?_
  refine s0_179 (fun h => absurd h (by decide)) (fun _ => ?_)
  refine s0_182 ?_
  refine s0_183 ?_
  refine s0_184 ?_
  refine s0_186 (own_fit1 _ _ _ _ hc) rfl ?_
  refine s0_189 (fun h => absurd h (by decide)) (fun _ => ?_)
  refine s0_192 ?_
  refine s0_193 ?_
  refine s0_197 rfl ?_
  refine s0_199 ?_
  refine s0_201 (fun h => absurd h (by decide)) (fun _ => ?_)
  refine s0_204 ?_
  refine s0_205 ?_
  refine s0_206 ?_
  refine s0_208 (own_fit1 _ _ _ _ ha) rfl ?_
  refine s0_211 (fun h => absurd h (by decide)) (fun _ => ?_)
  refine s0_214 ?_
  refine s0_215 ?_
  refine s0_219 rfl ?_
  refine s0_221 ?_
  refine s0_223 (fun _ => ?_) (fun h => absurd h (by decide))
  refine s0_240 ?_
  refine s0_241 rfl ?_
  refine s0_243 ?_
  refine s0_245 (fun h => absurd h (by decide)) (fun _ => ?_)
  refine s0_248 ?_
  refine s0_250 (fun h => absurd h (by decide)) (fun _ => ?_)
  refine s0_253 ?_
  refine s0_254 ?_
  refine s0_255 ?_
  refine s0_277 rfl ?_
  refine s0_279 ?_
  refine s0_281 (fun _ => ?_) (fun h => absurd h (by decide))
  refine s0_300 ?_
  refine s0_302 (fun h => absurd h (by decide)) (fun _ => ?_)
  refine s0_305 ?_
  refine s0_306 ?_
  refine s0_307 ?_
  refine s0_313 rfl ?_
  refine s0_315 ?_
  refine s0_317 (fun _ => ?_) (fun h => absurd h (by decide))
  refine s0_336 ?_
  refine s0_338 (fun _ => ?_) (fun h => absurd h (by decide))
  refine s0_346 ?_
  refine s0_349 rfl ?_
  refine s0_351 ?_
  refine s0_353 (fun h => absurd h (by decide)) (fun _ => ?_)
  refine s0_356 ?_
  refine s0_358 ?_
  refine s0_376 rfl ?_
  refine s0_378 ?_
  refine s0_380 ?_
  refine s0_382 (fun h => absurd h (by decide)) (fun _ => ?_)
  refine s0_385 ?_
  refine s0_387 ?_
  refine s0_388 ?_
  refine s0_389 rfl (own_r61 a b c pd w) rfl ?_
  refine s0_392 ?_
  refine s0_394c (fun h => absurd rfl h) (fun _ => ?_)
  refine s0_398 ?_
  refine s0_400 ?_
  refine s0_401 ?_
  refine s0_402 rfl (own_r62 a b c pd w) rfl ?_
  refine s0_405 ?_
  refine s0_407c (fun h => absurd rfl h) (fun _ => ?_)
  refine s0_411 ?_
  refine s0_413 ?_
  refine s0_414 ?_
  refine s0_415 rfl (own_r63 a b c pd w) rfl ?_
  refine s0_418 ?_
  refine s0_420c (fun h => absurd h (by decide)) (fun _ => ?_)
  refine s0_424 ?_
  refine s0_425 ?_
  exact s0_429 rfl
set_option maxHeartbeats 4000000 in
theorem own_c1k0d (a b c pd : Int32) (w : Int64) (flags : Int32) (ha : ¬ w < a.toInt64 - pd.toInt64) (hc : w < c.toInt64 - pd.toInt64) : W0 room_1 57 [.val (.int a), .val (.int b), .val (.int c), .val (.int pd), .val (.long w), .second, .val (.int flags), .val (.int 1), .val (.int 0), .val (.int 1), .val (.int 1), .unset, .unset, .unset, .unset, .unset, .unset, .unset, .unset, .unset, .unset, .unset, .unset, .unset, .unset, .unset] [] [] (fun r _ => r = some (.int 1)) := by
  refine s0_57 ?_
  refine s0_58 0 2 (by decide) rfl rfl ?_
  refine s0_60 rfl ?_
  refine s0_61 ?_
  refine s0_62 ?_
  refine s0_63 0 rfl (by decide) rfl ?_
  refine s0_64 rfl ?_
  refine s0_65 ?_
  refine s0_66 ?_
  refine s0_67 1 rfl (by decide) rfl ?_
  refine s0_68 rfl ?_
  refine s0_70 ?_
  refine s0_71 1 2 (by decide) rfl rfl ?_
  refine s0_73 rfl ?_
  refine s0_74 ?_
  refine s0_75 ?_
  refine s0_76 0 rfl (by decide) rfl ?_
  refine s0_77 rfl ?_
  refine s0_78 ?_
  refine s0_79 ?_
  refine s0_80 1 rfl (by decide) rfl ?_
  refine s0_81 rfl ?_
  refine s0_83 2 rfl rfl ?_
  refine s0_86 rfl ?_
  refine s0_87 ?_
  refine s0_89 ?_
  refine s0_91 ?_
  refine s0_93 (own_r2 a b c pd w) rfl ?_
  refine s0_96 rfl ?_
  refine s0_98 ?_
  refine s0_100 (fun h => absurd h (by decide)) (fun _ => ?_)
  refine s0_103 ?_
  refine s0_105 ?_
  refine s0_106 rfl (own_r8 a b c pd w) rfl ?_
  refine s0_109 ?_
  refine s0_111 ?_
  refine s0_112 ?_
  refine s0_113 ?_
  refine s0_114 rfl (own_r10 a b c pd w) rfl ?_
  refine s0_117 ?_
  refine s0_119 (fun h => absurd h (by decide)) (fun _ => ?_)
  refine s0_122 ?_
  refine s0_124 ?_
  refine s0_125 rfl (own_r56 a b c pd w) rfl ?_
  refine s0_128 ?_
  refine s0_130 ?_
  refine s0_131 ?_
  refine s0_132 ?_
  refine s0_133 rfl (own_r58 a b c pd w) rfl ?_
  refine s0_136 ?_
  refine s0_138 (fun _ => ?_) (fun h => absurd h (by decide))
  refine s0_155 ?_
  refine s0_157 (fun h => absurd h (by decide)) (fun _ => ?_)
  refine s0_160 ?_
  refine s0_161 ?_
  refine s0_165 rfl ?_
  refine s0_167 ?_
  refine s0_169 ?_
  refine s0_171 ?_
  refine s0_172 rfl (own_r145 a b c pd w ha hc) rfl ?_
  refine s0_175 rfl ?_
  refine s0_177 ?_
  refine s0_179 (fun h => absurd h (by decide)) (fun _ => ?_)
  refine s0_182 ?_
  refine s0_183 ?_
  refine s0_184 ?_
  refine s0_186 (own_fit0 _ _ _ _ hc) rfl ?_
  refine s0_189 (fun _ => ?_) (fun h => absurd h (by decide))
  refine s0_196 ?_
  refine s0_197 rfl ?_
  refine s0_199 ?_
  refine s0_201 (fun h => absurd h (by decide)) (fun _ => ?_)
  refine s0_204 ?_
  refine s0_205 ?_
  refine s0_206 ?_
  refine s0_208 (own_fit1 _ _ _ _ ha) rfl ?_
  refine s0_211 (fun h => absurd h (by decide)) (fun _ => ?_)
  refine s0_214 ?_
  refine s0_215 ?_
  refine s0_219 rfl ?_
  refine s0_221 ?_
  refine s0_223 (fun _ => ?_) (fun h => absurd h (by decide))
  refine s0_240 ?_
  refine s0_241 rfl ?_
  refine s0_243 ?_
  refine s0_245 (fun h => absurd h (by decide)) (fun _ => ?_)
  refine s0_248 ?_
  refine s0_250 (fun _ => ?_) (fun h => absurd h (by decide))
  refine s0_258 ?_
  refine s0_261 ?_
  refine s0_277 rfl ?_
  refine s0_279 ?_
  refine s0_281 (fun _ => ?_) (fun h => absurd h (by decide))
  refine s0_300 ?_
  refine s0_302 (fun h => absurd h (by decide)) (fun _ => ?_)
  refine s0_305 ?_
  refine s0_306 ?_
  refine s0_307 ?_
  refine s0_313 rfl ?_
  refine s0_315 ?_
  refine s0_317 (fun _ => ?_) (fun h => absurd h (by decide))
  refine s0_336 ?_
  refine s0_338 (fun _ => ?_) (fun h => absurd h (by decide))
  refine s0_346 ?_
  refine s0_349 rfl ?_
  refine s0_351 ?_
  refine s0_353 (fun h => absurd h (by decide)) (fun _ => ?_)
  refine s0_356 ?_
  refine s0_358 ?_
  refine s0_376 rfl ?_
  refine s0_378 ?_
  refine s0_380 ?_
  refine s0_382 (fun h => absurd h (by decide)) (fun _ => ?_)
  refine s0_385 ?_
  refine s0_387 ?_
  refine s0_388 ?_
  refine s0_389 rfl (own_r53 a b c pd w) rfl ?_
  refine s0_392 ?_
  refine s0_394c (fun h => absurd h (by decide)) (fun _ => ?_)
  refine s0_398 ?_
  refine s0_400 ?_
  refine s0_401 ?_
  refine s0_402 rfl (own_r54 a b c pd w) rfl ?_
  refine s0_405 ?_
  refine s0_407c (fun h => absurd rfl h) (fun _ => ?_)
  refine s0_411 ?_
  refine s0_413 ?_
  refine s0_414 ?_
  refine s0_415 rfl (own_r55 a b c pd w) rfl ?_
  refine s0_418 ?_
  refine s0_420c (fun h => absurd h (by decide)) (fun _ => ?_)
  refine s0_424 ?_
  refine s0_425 ?_
  exact s0_429 rfl
set_option maxHeartbeats 4000000 in
theorem own_c1kk0 (a b c pd : Int32) (w : Int64) (flags : Int32) (ha : ¬ w < a.toInt64 - pd.toInt64) (hb : ¬ w < b.toInt64 - pd.toInt64) : W0 room_1 57 [.val (.int a), .val (.int b), .val (.int c), .val (.int pd), .val (.long w), .second, .val (.int flags), .val (.int 1), .val (.int 1), .val (.int 0), .val (.int 1), .unset, .unset, .unset, .unset, .unset, .unset, .unset, .unset, .unset, .unset, .unset, .unset, .unset, .unset, .unset] [] [] (fun r _ => r = some (.int 1)) := by
  refine s0_57 ?_
  refine s0_58 0 2 (by decide) rfl rfl ?_
  refine s0_60 rfl ?_
  refine s0_61 ?_
  refine s0_62 ?_
  refine s0_63 0 rfl (by decide) rfl ?_
  refine s0_64 rfl ?_
  refine s0_65 ?_
  refine s0_66 ?_
  refine s0_67 1 rfl (by decide) rfl ?_
  refine s0_68 rfl ?_
  refine s0_70 ?_
  refine s0_71 1 2 (by decide) rfl rfl ?_
  refine s0_73 rfl ?_
  refine s0_74 ?_
  refine s0_75 ?_
  refine s0_76 0 rfl (by decide) rfl ?_
  refine s0_77 rfl ?_
  refine s0_78 ?_
  refine s0_79 ?_
  refine s0_80 1 rfl (by decide) rfl ?_
  refine s0_81 rfl ?_
  refine s0_83 2 rfl rfl ?_
  refine s0_86 rfl ?_
  refine s0_87 ?_
  refine s0_89 ?_
  refine s0_91 ?_
  refine s0_93 (own_r2 a b c pd w) rfl ?_
  refine s0_96 rfl ?_
  refine s0_98 ?_
  refine s0_100 (fun _ => ?_) (fun h => absurd h (by decide))
  refine s0_117 ?_
  refine s0_119 (fun h => absurd h (by decide)) (fun _ => ?_)
  refine s0_122 ?_
  refine s0_124 ?_
  refine s0_125 rfl (own_r48 a b c pd w) rfl ?_
  refine s0_128 ?_
  refine s0_130 ?_
  refine s0_131 ?_
  refine s0_132 ?_
  refine s0_133 rfl (own_r50 a b c pd w) rfl ?_
  refine s0_136 ?_
  refine s0_138 (fun h => absurd h (by decide)) (fun _ => ?_)
  refine s0_141 ?_
  refine s0_143 ?_
  refine s0_144 rfl (own_r66 a b c pd w) rfl ?_
  refine s0_147 ?_
  refine s0_149 ?_
  refine s0_150 ?_
  refine s0_151 ?_
  refine s0_152 rfl (own_r68 a b c pd w) rfl ?_
  refine s0_155 ?_
  refine s0_157 (fun h => absurd h (by decide)) (fun _ => ?_)
  refine s0_160 ?_
  refine s0_161 ?_
  refine s0_165 rfl ?_
  refine s0_167 ?_
  refine s0_169 ?_
  refine s0_171 ?_
  refine s0_172 rfl (own_r147 a b c pd w ha hb) rfl ?_
  refine s0_175 rfl ?_
  refine s0_177 ?_
  refine s0_179 (fun _ => ?_) (fun h => absurd h (by decide))
  refine s0_196 ?_
  refine s0_197 rfl ?_
  refine s0_199 ?_
  refine s0_201 (fun h => absurd h (by decide)) (fun _ => ?_)
  refine s0_204 ?_
  refine s0_205 ?_
  refine s0_206 ?_
  refine s0_208 (own_fit1 _ _ _ _ ha) rfl ?_
  refine s0_211 (fun h => absurd h (by decide)) (fun _ => ?_)
  refine s0_214 ?_
  refine s0_215 ?_
  refine s0_219 rfl ?_
  refine s0_221 ?_
  refine s0_223 (fun h => absurd h (by decide)) (fun _ => ?_)
  refine s0_226 ?_
  refine s0_227 ?_
  refine s0_228 ?_
  refine s0_230 (own_fit1 _ _ _ _ hb) rfl ?_
  refine s0_233 (fun h => absurd h (by decide)) (fun _ => ?_)
  refine s0_236 ?_
  refine s0_237 ?_
  refine s0_241 rfl ?_
  refine s0_243 ?_
  refine s0_245 (fun h => absurd h (by decide)) (fun _ => ?_)
  refine s0_248 ?_
  refine s0_250 (fun _ => ?_) (fun h => absurd h (by decide))
  refine s0_258 ?_
  refine s0_261 ?_
  refine s0_277 rfl ?_
  refine s0_279 ?_
  refine s0_281 (fun _ => ?_) (fun h => absurd h (by decide))
  refine s0_300 ?_
  refine s0_302 (fun h => absurd h (by decide)) (fun _ => ?_)
  refine s0_305 ?_
  refine s0_306 ?_
  refine s0_307 ?_
  refine s0_313 rfl ?_
  refine s0_315 ?_
  refine s0_317 (fun _ => ?_) (fun h => absurd h (by decide))
  refine s0_336 ?_
  refine s0_338 (fun h => absurd h (by decide)) (fun _ => ?_)
  refine s0_341 ?_
  refine s0_342 ?_
  refine s0_343 ?_
  refine s0_349 rfl ?_
  refine s0_351 ?_
  refine s0_353 (fun h => absurd h (by decide)) (fun _ => ?_)
  refine s0_356 ?_
  refine s0_358 ?_
  refine s0_376 rfl ?_
  refine s0_378 ?_
  refine s0_380 ?_
  refine s0_382 (fun h => absurd h (by decide)) (fun _ => ?_)
  refine s0_385 ?_
  refine s0_387 ?_
  refine s0_388 ?_
  refine s0_389 rfl (own_r71 a b c pd w) rfl ?_
  refine s0_392 ?_
  refine s0_394c (fun h => absurd h (by decide)) (fun _ => ?_)
  refine s0_398 ?_
  refine s0_400 ?_
  refine s0_401 ?_
  refine s0_402 rfl (own_r72 a b c pd w) rfl ?_
  refine s0_405 ?_
  refine s0_407c (fun h => absurd rfl h) (fun _ => ?_)
  refine s0_411 ?_
  refine s0_413 ?_
  refine s0_414 ?_
  refine s0_415 rfl (own_r73 a b c pd w) rfl ?_
  refine s0_418 ?_
  refine s0_420c (fun h => absurd rfl h) (fun _ => ?_)
  refine s0_424 ?_
  refine s0_425 ?_
  exact s0_429 rfl
set_option maxHeartbeats 4000000 in
theorem own_c1kkk (a b c pd : Int32) (w : Int64) (flags : Int32) (ha : ¬ w < a.toInt64 - pd.toInt64) (hb : ¬ w < b.toInt64 - pd.toInt64) (hc : ¬ w < c.toInt64 - pd.toInt64) : W0 room_1 57 [.val (.int a), .val (.int b), .val (.int c), .val (.int pd), .val (.long w), .second, .val (.int flags), .val (.int 1), .val (.int 1), .val (.int 1), .val (.int 1), .unset, .unset, .unset, .unset, .unset, .unset, .unset, .unset, .unset, .unset, .unset, .unset, .unset, .unset, .unset] [] [] (fun r _ => r = some (.int 1)) := by
  refine s0_57 ?_
  refine s0_58 0 2 (by decide) rfl rfl ?_
  refine s0_60 rfl ?_
  refine s0_61 ?_
  refine s0_62 ?_
  refine s0_63 0 rfl (by decide) rfl ?_
  refine s0_64 rfl ?_
  refine s0_65 ?_
  refine s0_66 ?_
  refine s0_67 1 rfl (by decide) rfl ?_
  refine s0_68 rfl ?_
  refine s0_70 ?_
  refine s0_71 1 2 (by decide) rfl rfl ?_
  refine s0_73 rfl ?_
  refine s0_74 ?_
  refine s0_75 ?_
  refine s0_76 0 rfl (by decide) rfl ?_
  refine s0_77 rfl ?_
  refine s0_78 ?_
  refine s0_79 ?_
  refine s0_80 1 rfl (by decide) rfl ?_
  refine s0_81 rfl ?_
  refine s0_83 2 rfl rfl ?_
  refine s0_86 rfl ?_
  refine s0_87 ?_
  refine s0_89 ?_
  refine s0_91 ?_
  refine s0_93 (own_r2 a b c pd w) rfl ?_
  refine s0_96 rfl ?_
  refine s0_98 ?_
  refine s0_100 (fun h => absurd h (by decide)) (fun _ => ?_)
  refine s0_103 ?_
  refine s0_105 ?_
  refine s0_106 rfl (own_r8 a b c pd w) rfl ?_
  refine s0_109 ?_
  refine s0_111 ?_
  refine s0_112 ?_
  refine s0_113 ?_
  refine s0_114 rfl (own_r10 a b c pd w) rfl ?_
  refine s0_117 ?_
  refine s0_119 (fun h => absurd h (by decide)) (fun _ => ?_)
  refine s0_122 ?_
  refine s0_124 ?_
  refine s0_125 rfl (own_r56 a b c pd w) rfl ?_
  refine s0_128 ?_
  refine s0_130 ?_
  refine s0_131 ?_
  refine s0_132 ?_
  refine s0_133 rfl (own_r58 a b c pd w) rfl ?_
  refine s0_136 ?_
  refine s0_138 (fun h => absurd h (by decide)) (fun _ => ?_)
  refine s0_141 ?_
  refine s0_143 ?_
  refine s0_144 rfl (own_r74 a b c pd w) rfl ?_
  refine s0_147 ?_
  refine s0_149 ?_
  refine s0_150 ?_
  refine s0_151 ?_
  refine s0_152 rfl (own_r76 a b c pd w) rfl ?_
  refine s0_155 ?_
  refine s0_157 (fun h => absurd h (by decide)) (fun _ => ?_)
  refine s0_160 ?_
  refine s0_161 ?_
  refine s0_165 rfl ?_
  refine s0_167 ?_
  refine s0_169 ?_
  refine s0_171 ?_
  refine s0_172 rfl (own_r149 a b c pd w ha hb hc) rfl ?_
  refine s0_175 rfl ?_
  refine s0_177 ?_
  refine s0_179 (fun h => absurd h (by decide)) (fun _ => ?_)
  refine s0_182 ?_
  refine s0_183 ?_
  refine s0_184 ?_
  refine s0_186 (own_fit1 _ _ _ _ hc) rfl ?_
  refine s0_189 (fun h => absurd h (by decide)) (fun _ => ?_)
  refine s0_192 ?_
  refine s0_193 ?_
  refine s0_197 rfl ?_
  refine s0_199 ?_
  refine s0_201 (fun h => absurd h (by decide)) (fun _ => ?_)
  refine s0_204 ?_
  refine s0_205 ?_
  refine s0_206 ?_
  refine s0_208 (own_fit1 _ _ _ _ ha) rfl ?_
  refine s0_211 (fun h => absurd h (by decide)) (fun _ => ?_)
  refine s0_214 ?_
  refine s0_215 ?_
  refine s0_219 rfl ?_
  refine s0_221 ?_
  refine s0_223 (fun h => absurd h (by decide)) (fun _ => ?_)
  refine s0_226 ?_
  refine s0_227 ?_
  refine s0_228 ?_
  refine s0_230 (own_fit1 _ _ _ _ hb) rfl ?_
  refine s0_233 (fun h => absurd h (by decide)) (fun _ => ?_)
  refine s0_236 ?_
  refine s0_237 ?_
  refine s0_241 rfl ?_
  refine s0_243 ?_
  refine s0_245 (fun h => absurd h (by decide)) (fun _ => ?_)
  refine s0_248 ?_
  refine s0_250 (fun h => absurd h (by decide)) (fun _ => ?_)
  refine s0_253 ?_
  refine s0_254 ?_
  refine s0_255 ?_
  refine s0_277 rfl ?_
  refine s0_279 ?_
  refine s0_281 (fun _ => ?_) (fun h => absurd h (by decide))
  refine s0_300 ?_
  refine s0_302 (fun h => absurd h (by decide)) (fun _ => ?_)
  refine s0_305 ?_
  refine s0_306 ?_
  refine s0_307 ?_
  refine s0_313 rfl ?_
  refine s0_315 ?_
  refine s0_317 (fun _ => ?_) (fun h => absurd h (by decide))
  refine s0_336 ?_
  refine s0_338 (fun h => absurd h (by decide)) (fun _ => ?_)
  refine s0_341 ?_
  refine s0_342 ?_
  refine s0_343 ?_
  refine s0_349 rfl ?_
  refine s0_351 ?_
  refine s0_353 (fun h => absurd h (by decide)) (fun _ => ?_)
  refine s0_356 ?_
  refine s0_358 ?_
  refine s0_376 rfl ?_
  refine s0_378 ?_
  refine s0_380 ?_
  refine s0_382 (fun h => absurd h (by decide)) (fun _ => ?_)
  refine s0_385 ?_
  refine s0_387 ?_
  refine s0_388 ?_
  refine s0_389 rfl (own_r79 a b c pd w) rfl ?_
  refine s0_392 ?_
  refine s0_394c (fun h => absurd rfl h) (fun _ => ?_)
  refine s0_398 ?_
  refine s0_400 ?_
  refine s0_401 ?_
  refine s0_402 rfl (own_r80 a b c pd w) rfl ?_
  refine s0_405 ?_
  refine s0_407c (fun h => absurd rfl h) (fun _ => ?_)
  refine s0_411 ?_
  refine s0_413 ?_
  refine s0_414 ?_
  refine s0_415 rfl (own_r81 a b c pd w) rfl ?_
  refine s0_418 ?_
  refine s0_420c (fun h => absurd rfl h) (fun _ => ?_)
  refine s0_424 ?_
  refine s0_425 ?_
  exact s0_429 rfl
set_option maxHeartbeats 4000000 in
theorem own_c1kkd (a b c pd : Int32) (w : Int64) (flags : Int32) (ha : ¬ w < a.toInt64 - pd.toInt64) (hb : ¬ w < b.toInt64 - pd.toInt64) (hc : w < c.toInt64 - pd.toInt64) : W0 room_1 57 [.val (.int a), .val (.int b), .val (.int c), .val (.int pd), .val (.long w), .second, .val (.int flags), .val (.int 1), .val (.int 1), .val (.int 1), .val (.int 1), .unset, .unset, .unset, .unset, .unset, .unset, .unset, .unset, .unset, .unset, .unset, .unset, .unset, .unset, .unset] [] [] (fun r _ => r = some (.int 1)) := by
  refine s0_57 ?_
  refine s0_58 0 2 (by decide) rfl rfl ?_
  refine s0_60 rfl ?_
  refine s0_61 ?_
  refine s0_62 ?_
  refine s0_63 0 rfl (by decide) rfl ?_
  refine s0_64 rfl ?_
  refine s0_65 ?_
  refine s0_66 ?_
  refine s0_67 1 rfl (by decide) rfl ?_
  refine s0_68 rfl ?_
  refine s0_70 ?_
  refine s0_71 1 2 (by decide) rfl rfl ?_
  refine s0_73 rfl ?_
  refine s0_74 ?_
  refine s0_75 ?_
  refine s0_76 0 rfl (by decide) rfl ?_
  refine s0_77 rfl ?_
  refine s0_78 ?_
  refine s0_79 ?_
  refine s0_80 1 rfl (by decide) rfl ?_
  refine s0_81 rfl ?_
  refine s0_83 2 rfl rfl ?_
  refine s0_86 rfl ?_
  refine s0_87 ?_
  refine s0_89 ?_
  refine s0_91 ?_
  refine s0_93 (own_r2 a b c pd w) rfl ?_
  refine s0_96 rfl ?_
  refine s0_98 ?_
  refine s0_100 (fun h => absurd h (by decide)) (fun _ => ?_)
  refine s0_103 ?_
  refine s0_105 ?_
  refine s0_106 rfl (own_r8 a b c pd w) rfl ?_
  refine s0_109 ?_
  refine s0_111 ?_
  refine s0_112 ?_
  refine s0_113 ?_
  refine s0_114 rfl (own_r10 a b c pd w) rfl ?_
  refine s0_117 ?_
  refine s0_119 (fun h => absurd h (by decide)) (fun _ => ?_)
  refine s0_122 ?_
  refine s0_124 ?_
  refine s0_125 rfl (own_r56 a b c pd w) rfl ?_
  refine s0_128 ?_
  refine s0_130 ?_
  refine s0_131 ?_
  refine s0_132 ?_
  refine s0_133 rfl (own_r58 a b c pd w) rfl ?_
  refine s0_136 ?_
  refine s0_138 (fun h => absurd h (by decide)) (fun _ => ?_)
  refine s0_141 ?_
  refine s0_143 ?_
  refine s0_144 rfl (own_r74 a b c pd w) rfl ?_
  refine s0_147 ?_
  refine s0_149 ?_
  refine s0_150 ?_
  refine s0_151 ?_
  refine s0_152 rfl (own_r76 a b c pd w) rfl ?_
  refine s0_155 ?_
  refine s0_157 (fun h => absurd h (by decide)) (fun _ => ?_)
  refine s0_160 ?_
  refine s0_161 ?_
  refine s0_165 rfl ?_
  refine s0_167 ?_
  refine s0_169 ?_
  refine s0_171 ?_
  refine s0_172 rfl (own_r151 a b c pd w ha hb hc) rfl ?_
  refine s0_175 rfl ?_
  refine s0_177 ?_
  refine s0_179 (fun h => absurd h (by decide)) (fun _ => ?_)
  refine s0_182 ?_
  refine s0_183 ?_
  refine s0_184 ?_
  refine s0_186 (own_fit0 _ _ _ _ hc) rfl ?_
  refine s0_189 (fun _ => ?_) (fun h => absurd h (by decide))
  refine s0_196 ?_
  refine s0_197 rfl ?_
  refine s0_199 ?_
  refine s0_201 (fun h => absurd h (by decide)) (fun _ => ?_)
  refine s0_204 ?_
  refine s0_205 ?_
  refine s0_206 ?_
  refine s0_208 (own_fit1 _ _ _ _ ha) rfl ?_
  refine s0_211 (fun h => absurd h (by decide)) (fun _ => ?_)
  refine s0_214 ?_
  refine s0_215 ?_
  refine s0_219 rfl ?_
  refine s0_221 ?_
  refine s0_223 (fun h => absurd h (by decide)) (fun _ => ?_)
  refine s0_226 ?_
  refine s0_227 ?_
  refine s0_228 ?_
  refine s0_230 (own_fit1 _ _ _ _ hb) rfl ?_
  refine s0_233 (fun h => absurd h (by decide)) (fun _ => ?_)
  refine s0_236 ?_
  refine s0_237 ?_
  refine s0_241 rfl ?_
  refine s0_243 ?_
  refine s0_245 (fun h => absurd h (by decide)) (fun _ => ?_)
  refine s0_248 ?_
  refine s0_250 (fun _ => ?_) (fun h => absurd h (by decide))
  refine s0_258 ?_
  refine s0_261 ?_
  refine s0_277 rfl ?_
  refine s0_279 ?_
  refine s0_281 (fun _ => ?_) (fun h => absurd h (by decide))
  refine s0_300 ?_
  refine s0_302 (fun h => absurd h (by decide)) (fun _ => ?_)
  refine s0_305 ?_
  refine s0_306 ?_
  refine s0_307 ?_
  refine s0_313 rfl ?_
  refine s0_315 ?_
  refine s0_317 (fun _ => ?_) (fun h => absurd h (by decide))
  refine s0_336 ?_
  refine s0_338 (fun h => absurd h (by decide)) (fun _ => ?_)
  refine s0_341 ?_
  refine s0_342 ?_
  refine s0_343 ?_
  refine s0_349 rfl ?_
  refine s0_351 ?_
  refine s0_353 (fun h => absurd h (by decide)) (fun _ => ?_)
  refine s0_356 ?_
  refine s0_358 ?_
  refine s0_376 rfl ?_
  refine s0_378 ?_
  refine s0_380 ?_
  refine s0_382 (fun h => absurd h (by decide)) (fun _ => ?_)
  refine s0_385 ?_
  refine s0_387 ?_
  refine s0_388 ?_
  refine s0_389 rfl (own_r71 a b c pd w) rfl ?_
  refine s0_392 ?_
  refine s0_394c (fun h => absurd h (by decide)) (fun _ => ?_)
  refine s0_398 ?_
  refine s0_400 ?_
  refine s0_401 ?_
  refine s0_402 rfl (own_r72 a b c pd w) rfl ?_
  refine s0_405 ?_
  refine s0_407c (fun h => absurd rfl h) (fun _ => ?_)
  refine s0_411 ?_
  refine s0_413 ?_
  refine s0_414 ?_
  refine s0_415 rfl (own_r73 a b c pd w) rfl ?_
  refine s0_418 ?_
  refine s0_420c (fun h => absurd rfl h) (fun _ => ?_)
  refine s0_424 ?_
  refine s0_425 ?_
  exact s0_429 rfl
set_option maxHeartbeats 4000000 in
theorem own_c1kd0 (a b c pd : Int32) (w : Int64) (flags : Int32) (ha : ¬ w < a.toInt64 - pd.toInt64) (hb : w < b.toInt64 - pd.toInt64) : W0 room_1 57 [.val (.int a), .val (.int b), .val (.int c), .val (.int pd), .val (.long w), .second, .val (.int flags), .val (.int 1), .val (.int 1), .val (.int 0), .val (.int 1), .unset, .unset, .unset, .unset, .unset, .unset, .unset, .unset, .unset, .unset, .unset, .unset, .unset, .unset, .unset] [] [] (fun r _ => r = some (.int 1)) := by
  refine s0_57 ?_
  refine s0_58 0 2 (by decide) rfl rfl ?_
  refine s0_60 rfl ?_
  refine s0_61 ?_
  refine s0_62 ?_
  refine s0_63 0 rfl (by decide) rfl ?_
  refine s0_64 rfl ?_
  refine s0_65 ?_
  refine s0_66 ?_
  refine s0_67 1 rfl (by decide) rfl ?_
  refine s0_68 rfl ?_
  refine s0_70 ?_
  refine s0_71 1 2 (by decide) rfl rfl ?_
  refine s0_73 rfl ?_
  refine s0_74 ?_
  refine s0_75 ?_
  refine s0_76 0 rfl (by decide) rfl ?_
  refine s0_77 rfl ?_
  refine s0_78 ?_
  refine s0_79 ?_
  refine s0_80 1 rfl (by decide) rfl ?_
  refine s0_81 rfl ?_
  refine s0_83 2 rfl rfl ?_
  refine s0_86 rfl ?_
  refine s0_87 ?_
  refine s0_89 ?_
  refine s0_91 ?_
  refine s0_93 (own_r2 a b c pd w) rfl ?_
  refine s0_96 rfl ?_
  refine s0_98 ?_
  refine s0_100 (fun _ => ?_) (fun h => absurd h (by decide))
  refine s0_117 ?_
  refine s0_119 (fun h => absurd h (by decide)) (fun _ => ?_)
  refine s0_122 ?_
  refine s0_124 ?_
  refine s0_125 rfl (own_r48 a b c pd w) rfl ?_
  refine s0_128 ?_
  refine s0_130 ?_
  refine s0_131 ?_
  refine s0_132 ?_
  refine s0_133 rfl (own_r50 a b c pd w) rfl ?_
  refine s0_136 ?_
  refine s0_138 (fun h => absurd h (by decide)) (fun _ => ?_)
  refine s0_141 ?_
  refine s0_143 ?_
  refine s0_144 rfl (own_r66 a b c pd w) rfl ?_
  refine s0_147 ?_
  refine s0_149 ?_
  refine s0_150 ?_
  refine s0_151 ?_
  refine s0_152 rfl (own_r68 a b c pd w) rfl ?_
  refine s0_155 ?_
  refine s0_157 (fun h => absurd h (by decide)) (fun _ => ?_)
  refine s0_160 ?_
  refine s0_161 ?_
  refine s0_165 rfl ?_
  refine s0_167 ?_
  refine s0_169 ?_
  refine s0_171 ?_
  refine s0_172 rfl (own_r153 a b c pd w ha hb) rfl ?_
  refine s0_175 rfl ?_
  refine s0_177 ?_
  refine s0_179 (fun _ => ?_) (fun h => absurd h (by decide))
  refine s0_196 ?_
  refine s0_197 rfl ?_
  refine s0_199 ?_
  refine s0_201 (fun h => absurd h (by decide)) (fun _ => ?_)
  refine s0_204 ?_
  refine s0_205 ?_
  refine s0_206 ?_
  refine s0_208 (own_fit1 _ _ _ _ ha) rfl ?_
  refine s0_211 (fun h => absurd h (by decide)) (fun _ => ?_)
  refine s0_214 ?_
  refine s0_215 ?_
  refine s0_219 rfl ?_
  refine s0_221 ?_
  refine s0_223 (fun h => absurd h (by decide)) (fun _ => ?_)
  refine s0_226 ?_
  refine s0_227 ?_
  refine s0_228 ?_
  refine s0_230 (own_fit0 _ _ _ _ hb) rfl ?_
  refine s0_233 (fun _ => ?_) (fun h => absurd h (by decide))
  refine s0_240 ?_
  refine s0_241 rfl ?_
  refine s0_243 ?_
  refine s0_245 (fun h => absurd h (by decide)) (fun _ => ?_)
  refine s0_248 ?_
  refine s0_250 (fun _ => ?_) (fun h => absurd h (by decide))
  refine s0_258 ?_
  refine s0_261 ?_
  refine s0_277 rfl ?_
  refine s0_279 ?_
  refine s0_281 (fun _ => ?_) (fun h => absurd h (by decide))
  refine s0_300 ?_
  refine s0_302 (fun h => absurd h (by decide)) (fun _ => ?_)
  refine s0_305 ?_
  refine s0_306 ?_
  refine s0_307 ?_
  refine s0_313 rfl ?_
  refine s0_315 ?_
  refine s0_317 (fun _ => ?_) (fun h => absurd h (by decide))
  refine s0_336 ?_
  refine s0_338 (fun h => absurd h (by decide)) (fun _ => ?_)
  refine s0_341 ?_
  refine s0_342 ?_
  refine s0_343 ?_
  refine s0_349 rfl ?_
  refine s0_351 ?_
  refine s0_353 (fun h => absurd h (by decide)) (fun _ => ?_)
  refine s0_356 ?_
  refine s0_358 ?_
  refine s0_376 rfl ?_
  refine s0_378 ?_
  refine s0_380 ?_
  refine s0_382 (fun h => absurd h (by decide)) (fun _ => ?_)
  refine s0_385 ?_
  refine s0_387 ?_
  refine s0_388 ?_
  refine s0_389 rfl (own_r71 a b c pd w) rfl ?_
  refine s0_392 ?_
  refine s0_394c (fun h => absurd h (by decide)) (fun _ => ?_)
  refine s0_398 ?_
  refine s0_400 ?_
  refine s0_401 ?_
  refine s0_402 rfl (own_r72 a b c pd w) rfl ?_
  refine s0_405 ?_
  refine s0_407c (fun h => absurd rfl h) (fun _ => ?_)
  refine s0_411 ?_
  refine s0_413 ?_
  refine s0_414 ?_
  refine s0_415 rfl (own_r73 a b c pd w) rfl ?_
  refine s0_418 ?_
  refine s0_420c (fun h => absurd rfl h) (fun _ => ?_)
  refine s0_424 ?_
  refine s0_425 ?_
  exact s0_429 rfl
set_option maxHeartbeats 4000000 in
theorem own_c1kdk (a b c pd : Int32) (w : Int64) (flags : Int32) (ha : ¬ w < a.toInt64 - pd.toInt64) (hb : w < b.toInt64 - pd.toInt64) (hc : ¬ w < c.toInt64 - pd.toInt64) : W0 room_1 57 [.val (.int a), .val (.int b), .val (.int c), .val (.int pd), .val (.long w), .second, .val (.int flags), .val (.int 1), .val (.int 1), .val (.int 1), .val (.int 1), .unset, .unset, .unset, .unset, .unset, .unset, .unset, .unset, .unset, .unset, .unset, .unset, .unset, .unset, .unset] [] [] (fun r _ => r = some (.int 1)) := by
  refine s0_57 ?_
  refine s0_58 0 2 (by decide) rfl rfl ?_
  refine s0_60 rfl ?_
  refine s0_61 ?_
  refine s0_62 ?_
  refine s0_63 0 rfl (by decide) rfl ?_
  refine s0_64 rfl ?_
  refine s0_65 ?_
  refine s0_66 ?_
  refine s0_67 1 rfl (by decide) rfl ?_
  refine s0_68 rfl ?_
  refine s0_70 ?_
  refine s0_71 1 2 (by decide) rfl rfl ?_
  refine s0_73 rfl ?_
  refine s0_74 ?_
  refine s0_75 ?_
  refine s0_76 0 rfl (by decide) rfl ?_
  refine s0_77 rfl ?_
  refine s0_78 ?_
  refine s0_79 ?_
  refine s0_80 1 rfl (by decide) rfl ?_
  refine s0_81 rfl ?_
  refine s0_83 2 rfl rfl ?_
  refine s0_86 rfl ?_
  refine s0_87 ?_
  refine s0_89 ?_
  refine s0_91 ?_
  refine s0_93 (own_r2 a b c pd w) rfl ?_
  refine s0_96 rfl ?_
  refine s0_98 ?_
  refine s0_100 (fun h => absurd h (by decide)) (fun _ => ?_)
  refine s0_103 ?_
  refine s0_105 ?_
  refine s0_106 rfl (own_r8 a b c pd w) rfl ?_
  refine s0_109 ?_
  refine s0_111 ?_
  refine s0_112 ?_
  refine s0_113 ?_
  refine s0_114 rfl (own_r10 a b c pd w) rfl ?_
  refine s0_117 ?_
  refine s0_119 (fun h => absurd h (by decide)) (fun _ => ?_)
  refine s0_122 ?_
  refine s0_124 ?_
  refine s0_125 rfl (own_r56 a b c pd w) rfl ?_
  refine s0_128 ?_
  refine s0_130 ?_
  refine s0_131 ?_
  refine s0_132 ?_
  refine s0_133 rfl (own_r58 a b c pd w) rfl ?_
  refine s0_136 ?_
  refine s0_138 (fun h => absurd h (by decide)) (fun _ => ?_)
  refine s0_141 ?_
  refine s0_143 ?_
  refine s0_144 rfl (own_r74 a b c pd w) rfl ?_
  refine s0_147 ?_
  refine s0_149 ?_
  refine s0_150 ?_
  refine s0_151 ?_
  refine s0_152 rfl (own_r76 a b c pd w) rfl ?_
  refine s0_155 ?_
  refine s0_157 (fun h => absurd h (by decide)) (fun _ => ?_)
  refine s0_160 ?_
  refine s0_161 ?_
  refine s0_165 rfl ?_
  refine s0_167 ?_
  refine s0_169 ?_
  refine s0_171 ?_
  refine s0_172 rfl (own_r155 a b c pd w ha hb hc) rfl ?_
  refine s0_175 rfl ?_
  refine s0_177 ?_
  refine s0_179 (fun h => absurd h (by decide)) (fun _ => ?_)
  refine s0_182 ?_
  refine s0_183 ?_
  refine s0_184 ?_
  refine s0_186 (own_fit1 _ _ _ _ hc) rfl ?_
  refine s0_189 (fun h => absurd h (by decide)) (fun _ => ?_)
  refine s0_192 ?_
  refine s0_193 ?_
  refine s0_197 rfl ?_
  refine s0_199 ?_
  refine s0_201 (fun h => absurd h (by decide)) (fun _ => ?_)
  refine s0_204 ?_
  refine s0_205 ?_
  refine s0_206 ?_
  refine s0_208 (own_fit1 _ _ _ _ ha) rfl ?_
  refine s0_211 (fun h => absurd h (by decide)) (fun _ => ?_)
  refine s0_214 ?_
  refine s0_215 ?_
  refine s0_219 rfl ?_
  refine s0_221 ?_
  refine s0_223 (fun h => absurd h (by decide)) (fun _ => ?_)
  refine s0_226 ?_
  refine s0_227 ?_
  refine s0_228 ?_
  refine s0_230 (own_fit0 _ _ _ _ hb) rfl ?_
  refine s0_233 (fun _ => ?_) (fun h => absurd h (by decide))
  refine s0_240 ?_
  refine s0_241 rfl ?_
  refine s0_243 ?_
  refine s0_245 (fun h => absurd h (by decide)) (fun _ => ?_)
  refine s0_248 ?_
  refine s0_250 (fun h => absurd h (by decide)) (fun _ => ?_)
  refine s0_253 ?_
  refine s0_254 ?_
  refine s0_255 ?_
  refine s0_277 rfl ?_
  refine s0_279 ?_
  refine s0_281 (fun _ => ?_) (fun h => absurd h (by decide))
  refine s0_300 ?_
  refine s0_302 (fun h => absurd h (by decide)) (fun _ => ?_)
  refine s0_305 ?_
  refine s0_306 ?_
  refine s0_307 ?_
  refine s0_313 rfl ?_
  refine s0_315 ?_
  refine s0_317 (fun _ => ?_) (fun h => absurd h (by decide))
  refine s0_336 ?_
  refine s0_338 (fun h => absurd h (by decide)) (fun _ => ?_)
  refine s0_341 ?_
  refine s0_342 ?_
  refine s0_343 ?_
  refine s0_349 rfl ?_
  refine s0_351 ?_
  refine s0_353 (fun h => absurd h (by decide)) (fun _ => ?_)
  refine s0_356 ?_
  refine s0_358 ?_
  refine s0_376 rfl ?_
  refine s0_378 ?_
  refine s0_380 ?_
  refine s0_382 (fun h => absurd h (by decide)) (fun _ => ?_)
  refine s0_385 ?_
  refine s0_387 ?_
  refine s0_388 ?_
  refine s0_389 rfl (own_r79 a b c pd w) rfl ?_
  refine s0_392 ?_
  refine s0_394c (fun h => absurd rfl h) (fun _ => ?_)
  refine s0_398 ?_
  refine s0_400 ?_
  refine s0_401 ?_
  refine s0_402 rfl (own_r80 a b c pd w) rfl ?_
  refine s0_405 ?_
  refine s0_407c (fun h => absurd rfl h) (fun _ => ?_)
  refine s0_411 ?_
  refine s0_413 ?_
  refine s0_414 ?_
  refine s0_415 rfl (own_r81 a b c pd w) rfl ?_
  refine s0_418 ?_
  refine s0_420c (fun h => absurd rfl h) (fun _ => ?_)
  refine s0_424 ?_
  refine s0_425 ?_
  exact s0_429 rfl
set_option maxHeartbeats 4000000 in
theorem own_c1kdd (a b c pd : Int32) (w : Int64) (flags : Int32) (ha : ¬ w < a.toInt64 - pd.toInt64) (hb : w < b.toInt64 - pd.toInt64) (hc : w < c.toInt64 - pd.toInt64) : W0 room_1 57 [.val (.int a), .val (.int b), .val (.int c), .val (.int pd), .val (.long w), .second, .val (.int flags), .val (.int 1), .val (.int 1), .val (.int 1), .val (.int 1), .unset, .unset, .unset, .unset, .unset, .unset, .unset, .unset, .unset, .unset, .unset, .unset, .unset, .unset, .unset] [] [] (fun r _ => r = some (.int 1)) := by
  refine s0_57 ?_
  refine s0_58 0 2 (by decide) rfl rfl ?_
  refine s0_60 rfl ?_
  refine s0_61 ?_
  refine s0_62 ?_
  refine s0_63 0 rfl (by decide) rfl ?_
  refine s0_64 rfl ?_
  refine s0_65 ?_
  refine s0_66 ?_
  refine s0_67 1 rfl (by decide) rfl ?_
  refine s0_68 rfl ?_
  refine s0_70 ?_
  refine s0_71 1 2 (by decide) rfl rfl ?_
  refine s0_73 rfl ?_
  refine s0_74 ?_
  refine s0_75 ?_
  refine s0_76 0 rfl (by decide) rfl ?_
  refine s0_77 rfl ?_
  refine s0_78 ?_
  refine s0_79 ?_
  refine s0_80 1 rfl (by decide) rfl ?_
  refine s0_81 rfl ?_
  refine s0_83 2 rfl rfl ?_
  refine s0_86 rfl ?_
  refine s0_87 ?_
  refine s0_89 ?_
  refine s0_91 ?_
  refine s0_93 (own_r2 a b c pd w) rfl ?_
  refine s0_96 rfl ?_
  refine s0_98 ?_
  refine s0_100 (fun h => absurd h (by decide)) (fun _ => ?_)
  refine s0_103 ?_
  refine s0_105 ?_
  refine s0_106 rfl (own_r8 a b c pd w) rfl ?_
  refine s0_109 ?_
  refine s0_111 ?_
  refine s0_112 ?_
  refine s0_113 ?_
  refine s0_114 rfl (own_r10 a b c pd w) rfl ?_
  refine s0_117 ?_
  refine s0_119 (fun h => absurd h (by decide)) (fun _ => ?_)
  refine s0_122 ?_
  refine s0_124 ?_
  refine s0_125 rfl (own_r56 a b c pd w) rfl ?_
  refine s0_128 ?_
  refine s0_130 ?_
  refine s0_131 ?_
  refine s0_132 ?_
  refine s0_133 rfl (own_r58 a b c pd w) rfl ?_
  refine s0_136 ?_
  refine s0_138 (fun h => absurd h (by decide)) (fun _ => ?_)
  refine s0_141 ?_
  refine s0_143 ?_
  refine s0_144 rfl (own_r74 a b c pd w) rfl ?_
  refine s0_147 ?_
  refine s0_149 ?_
  refine s0_150 ?_
  refine s0_151 ?_
  refine s0_152 rfl (own_r76 a b c pd w) rfl ?_
  refine s0_155 ?_
  refine s0_157 (fun h => absurd h (by decide)) (fun _ => ?_)
  refine s0_160 ?_
  refine s0_161 ?_
  refine s0_165 rfl ?_
  refine s0_167 ?_
  refine s0_169 ?_
  refine s0_171 ?_
  refine s0_172 rfl (own_r157 a b c pd w ha hb hc) rfl ?_
  refine s0_175 rfl ?_
  refine s0_177 ?_
  refine s0_179 (fun h => absurd h (by decide)) (fun _ => ?_)
  refine s0_182 ?_
  refine s0_183 ?_
  refine s0_184 ?_
  refine s0_186 (own_fit0 _ _ _ _ hc) rfl ?_
  refine s0_189 (fun _ => ?_) (fun h => absurd h (by decide))
  refine s0_196 ?_
  refine s0_197 rfl ?_
  refine s0_199 ?_
  refine s0_201 (fun h => absurd h (by decide)) (fun _ => ?_)
  refine s0_204 ?_
  refine s0_205 ?_
  refine s0_206 ?_
  refine s0_208 (own_fit1 _ _ _ _ ha) rfl ?_
  refine s0_211 (fun h => absurd h (by decide)) (fun _ => ?_)
  refine s0_214 ?_
  refine s0_215 ?_
  refine s0_219 rfl ?_
  refine s0_221 ?_
  refine s0_223 (fun h => absurd h (by decide)) (fun _ => ?_)
  refine s0_226 ?_
  refine s0_227 ?_
  refine s0_228 ?_
  refine s0_230 (own_fit0 _ _ _ _ hb) rfl ?_
  refine s0_233 (fun _ => ?_) (fun h => absurd h (by decide))
  refine s0_240 ?_
  refine s0_241 rfl ?_
  refine s0_243 ?_
  refine s0_245 (fun h => absurd h (by decide)) (fun _ => ?_)
  refine s0_248 ?_
  refine s0_250 (fun _ => ?_) (fun h => absurd h (by decide))
  refine s0_258 ?_
  refine s0_261 ?_
  refine s0_277 rfl ?_
  refine s0_279 ?_
  refine s0_281 (fun _ => ?_) (fun h => absurd h (by decide))
  refine s0_300 ?_
  refine s0_302 (fun h => absurd h (by decide)) (fun _ => ?_)
  refine s0_305 ?_
  refine s0_306 ?_
  refine s0_307 ?_
  refine s0_313 rfl ?_
  refine s0_315 ?_
  refine s0_317 (fun _ => ?_) (fun h => absurd h (by decide))
  refine s0_336 ?_
  refine s0_338 (fun h => absurd h (by decide)) (fun _ => ?_)
  refine s0_341 ?_
  refine s0_342 ?_
  refine s0_343 ?_
  refine s0_349 rfl ?_
  refine s0_351 ?_
  refine s0_353 (fun h => absurd h (by decide)) (fun _ => ?_)
  refine s0_356 ?_
  refine s0_358 ?_
  refine s0_376 rfl ?_
  refine s0_378 ?_
  refine s0_380 ?_
  refine s0_382 (fun h => absurd h (by decide)) (fun _ => ?_)
  refine s0_385 ?_
  refine s0_387 ?_
  refine s0_388 ?_
  refine s0_389 rfl (own_r71 a b c pd w) rfl ?_
  refine s0_392 ?_
  refine s0_394c (fun h => absurd h (by decide)) (fun _ => ?_)
  refine s0_398 ?_
  refine s0_400 ?_
  refine s0_401 ?_
  refine s0_402 rfl (own_r72 a b c pd w) rfl ?_
  refine s0_405 ?_
  refine s0_407c (fun h => absurd rfl h) (fun _ => ?_)
  refine s0_411 ?_
  refine s0_413 ?_
  refine s0_414 ?_
  refine s0_415 rfl (own_r73 a b c pd w) rfl ?_
  refine s0_418 ?_
  refine s0_420c (fun h => absurd rfl h) (fun _ => ?_)
  refine s0_424 ?_
  refine s0_425 ?_
  exact s0_429 rfl
set_option maxHeartbeats 4000000 in
theorem own_c1d00 (a b c pd : Int32) (w : Int64) (flags : Int32) (ha : w < a.toInt64 - pd.toInt64) : W0 room_1 57 [.val (.int a), .val (.int b), .val (.int c), .val (.int pd), .val (.long w), .second, .val (.int flags), .val (.int 1), .val (.int 0), .val (.int 0), .val (.int 1), .unset, .unset, .unset, .unset, .unset, .unset, .unset, .unset, .unset, .unset, .unset, .unset, .unset, .unset, .unset] [] [] (fun r _ => r = some (.int 1)) := by
  refine s0_57 ?_
  refine s0_58 0 2 (by decide) rfl rfl ?_
  refine s0_60 rfl ?_
  refine s0_61 ?_
  refine s0_62 ?_
  refine s0_63 0 rfl (by decide) rfl ?_
  refine s0_64 rfl ?_
  refine s0_65 ?_
  refine s0_66 ?_
  refine s0_67 1 rfl (by decide) rfl ?_
  refine s0_68 rfl ?_
  refine s0_70 ?_
  refine s0_71 1 2 (by decide) rfl rfl ?_
  refine s0_73 rfl ?_
  refine s0_74 ?_
  refine s0_75 ?_
  refine s0_76 0 rfl (by decide) rfl ?_
  refine s0_77 rfl ?_
  refine s0_78 ?_
  refine s0_79 ?_
  refine s0_80 1 rfl (by decide) rfl ?_
  refine s0_81 rfl ?_
  refine s0_83 2 rfl rfl ?_
  refine s0_86 rfl ?_
  refine s0_87 ?_
  refine s0_89 ?_
  refine s0_91 ?_
  refine s0_93 (own_r2 a b c pd w) rfl ?_
  refine s0_96 rfl ?_
  refine s0_98 ?_
  refine s0_100 (fun _ => ?_) (fun h => absurd h (by decide))
  refine s0_117 ?_
  refine s0_119 (fun h => absurd h (by decide)) (fun _ => ?_)
  refine s0_122 ?_
  refine s0_124 ?_
  refine s0_125 rfl (own_r48 a b c pd w) rfl ?_
  refine s0_128 ?_
  refine s0_130 ?_
  refine s0_131 ?_
  refine s0_132 ?_
  refine s0_133 rfl (own_r50 a b c pd w) rfl ?_
  refine s0_136 ?_
  refine s0_138 (fun _ => ?_) (fun h => absurd h (by decide))
  refine s0_155 ?_
  refine s0_157 (fun h => absurd h (by decide)) (fun _ => ?_)
  refine s0_160 ?_
  refine s0_161 ?_
  refine s0_165 rfl ?_
  refine s0_167 ?_
  refine s0_169 ?_
  refine s0_171 ?_
  refine s0_172 rfl (own_r159 a b c pd w ha) rfl ?_
  refine s0_175 rfl ?_
  refine s0_177 ?_
  refine s0_179 (fun _ => ?_) (fun h => absurd h (by decide))
  refine s0_196 ?_
  refine s0_197 rfl ?_
  refine s0_199 ?_
  refine s0_201 (fun h => absurd h (by decide)) (fun _ => ?_)
  refine s0_204 ?_
  refine s0_205 ?_
  refine s0_206 ?_
  refine s0_208 (own_fit0 _ _ _ _ ha) rfl ?_
  refine s0_211 (fun _ => ?_) (fun h => absurd h (by decide))
  refine s0_218 ?_
  refine s0_219 rfl ?_
  refine s0_221 ?_
  refine s0_223 (fun _ => ?_) (fun h => absurd h (by decide))
  refine s0_240 ?_
  refine s0_241 rfl ?_
  refine s0_243 ?_
  refine s0_245 (fun h => absurd h (by decide)) (fun _ => ?_)
  refine s0_248 ?_
  refine s0_250 (fun _ => ?_) (fun h => absurd h (by decide))
  refine s0_258 ?_
  refine s0_261 ?_
  refine s0_277 rfl ?_
  refine s0_279 ?_
  refine s0_281 (fun _ => ?_) (fun h => absurd h (by decide))
  refine s0_300 ?_
  refine s0_302 (fun h => absurd h (by decide)) (fun _ => ?_)
  refine s0_305 ?_
  refine s0_306 ?_
  refine s0_307 ?_
  refine s0_313 rfl ?_
  refine s0_315 ?_
  refine s0_317 (fun _ => ?_) (fun h => absurd h (by decide))
  refine s0_336 ?_
  refine s0_338 (fun _ => ?_) (fun h => absurd h (by decide))
  refine s0_346 ?_
  refine s0_349 rfl ?_
  refine s0_351 ?_
  refine s0_353 (fun h => absurd h (by decide)) (fun _ => ?_)
  refine s0_356 ?_
  refine s0_358 ?_
  refine s0_376 rfl ?_
  refine s0_378 ?_
  refine s0_380 ?_
  refine s0_382 (fun h => absurd h (by decide)) (fun _ => ?_)
  refine s0_385 ?_
  refine s0_387 ?_
  refine s0_388 ?_
  refine s0_389 rfl (own_r53 a b c pd w) rfl ?_
  refine s0_392 ?_
  refine s0_394c (fun h => absurd h (by decide)) (fun _ => ?_)
  refine s0_398 ?_
  refine s0_400 ?_
  refine s0_401 ?_
  refine s0_402 rfl (own_r54 a b c pd w) rfl ?_
  refine s0_405 ?_
  refine s0_407c (fun h => absurd rfl h) (fun _ => ?_)
  refine s0_411 ?_
  refine s0_413 ?_
  refine s0_414 ?_
  refine s0_415 rfl (own_r55 a b c pd w) rfl ?_
  refine s0_418 ?_
  refine s0_420c (fun h => absurd h (by decide)) (fun _ => ?_)
  refine s0_424 ?_
  refine s0_425 ?_
  exact s0_429 rfl
set_option maxHeartbeats 4000000 in
theorem own_c1d0k (a b c pd : Int32) (w : Int64) (flags : Int32) (ha : w < a.toInt64 - pd.toInt64) (hc : ¬ w < c.toInt64 - pd.toInt64) : W0 room_1 57 [.val (.int a), .val (.int b), .val (.int c), .val (.int pd), .val (.long w), .second, .val (.int flags), .val (.int 1), .val (.int 0), .val (.int 1), .val (.int 1), .unset, .unset, .unset, .unset, .unset, .unset, .unset, .unset, .unset, .unset, .unset, .unset, .unset, .unset, .unset] [] [] (fun r _ => r = some (.int 1)) := by
  refine s0_57 ?_
  refine s0_58 0 2 (by decide) rfl rfl ?_
  refine s0_60 rfl ?_
  refine s0_61 ?_
  refine s0_62 ?_
  refine s0_63 0 rfl (by decide) rfl ?_
  refine s0_64 rfl ?_
  refine s0_65 ?_
  refine s0_66 ?_
  refine s0_67 1 rfl (by decide) rfl ?_
  refine s0_68 rfl ?_
  refine s0_70 ?_
  refine s0_71 1 2 (by decide) rfl rfl ?_
  refine s0_73 rfl ?_
  refine s0_74 ?_
  refine s0_75 ?_
  refine s0_76 0 rfl (by decide) rfl ?_
  refine s0_77 rfl ?_
  refine s0_78 ?_
  refine s0_79 ?_
  refine s0_80 1 rfl (by decide) rfl ?_
  refine s0_81 rfl ?_
  refine s0_83 2 rfl rfl ?_
  refine s0_86 rfl ?_
  refine s0_87 ?_
  refine s0_89 ?_
  refine s0_91 ?_
  refine s0_93 (own_r2 a b c pd w) rfl ?_
  refine s0_96 rfl ?_
  refine s0_98 ?_
  refine s0_100 (fun h => absurd h (by decide)) (fun _ => ?_)
  refine s0_103 ?_
  refine s0_105 ?_
  refine s0_106 rfl (own_r8 a b c pd w) rfl ?_
  refine s0_109 ?_
  refine s0_111 ?_
  refine s0_112 ?_
  refine s0_113 ?_
  refine s0_114 rfl (own_r10 a b c pd w) rfl ?_
  refine s0_117 ?_
  refine s0_119 (fun h => absurd h (by decide)) (fun _ => ?_)
  refine s0_122 ?_
  refine s0_124 ?_
  refine s0_125 rfl (own_r56 a b c pd w) rfl ?_
  refine s0_128 ?_
  refine s0_130 ?_
  refine s0_131 ?_
  refine s0_132 ?_
  refine s0_133 rfl (own_r58 a b c pd w) rfl ?_
  refine s0_136 ?_
  refine s0_138 (fun _ => ?_) (fun h => absurd h (by decide))
  refine s0_155 ?_
  refine s0_157 (fun h => absurd h (by decide)) (fun _ => ?_)
  refine s0_160 ?_
  refine s0_161 ?_
  refine s0_165 rfl ?_
  refine s0_167 ?_
  refine s0_169 ?_
  refine s0_171 ?_
  refine s0_172 rfl (own_r161 a b c pd w ha hc) rfl ?_
  refine s0_175 rfl ?_
  refine s0_177 ?_
  refine s0_179 (fun h => absurd h (by decide)) (fun _ => ?_)
  refine s0_182 ?_
  refine s0_183 ?_
  refine s0_184 ?_
  refine s0_186 (own_fit1 _ _ _ _ hc) rfl ?_
  refine s0_189 (fun h => absurd h (by decide)) (fun _ => ?_)
  refine s0_192 ?_
  refine s0_193 ?_
  refine s0_197 rfl ?_
  refine s0_199 ?_
  refine s0_201 (fun h => absurd h (by decide)) (fun _ => ?_)
  refine s0_204 ?_
  refine s0_205 ?_
  refine s0_206 ?_
  refine s0_208 (own_fit0 _ _ _ _ ha) rfl ?_
  refine s0_211 (fun _ => ?_) (fun h => absurd h (by decide))
  refine s0_218 ?_
  refine s0_219 rfl ?_
  refine s0_221 ?_
  refine s0_223 (fun _ => ?_) (fun h => absurd h (by decide))
  refine s0_240 ?_
  refine s0_241 rfl ?_
  refine s0_243 ?_
  refine s0_245 (fun h => absurd h (by decide)) (fun _ => ?_)
  refine s0_248 ?_
  refine s0_250 (fun h => absurd h (by decide)) (fun _ => ?_)
  refine s0_253 ?_
  refine s0_254 ?_
  refine s0_255 ?_
  refine s0_277 rfl ?_
  refine s0_279 ?_
  refine s0_281 (fun _ => ?_) (fun h => absurd h (by decide))
  refine s0_300 ?_
  refine s0_302 (fun h => absurd h (by decide)) (fun _ => ?_)
  refine s0_305 ?_
  refine s0_306 ?_
  refine s0_307 ?_
  refine s0_313 rfl ?_
  refine s0_315 ?_
  refine s0_317 (fun _ => ?_) (fun h => absurd h (by decide))
  refine s0_336 ?_
  refine s0_338 (fun _ => ?_) (fun h => absurd h (by decide))
  refine s0_346 ?_
  refine s0_349 rfl ?_
  refine s0_351 ?_
  refine s0_353 (fun h => absurd h (by decide)) (fun _ => ?_)
  refine s0_356 ?_
  refine s0_358 ?_
  refine s0_376 rfl ?_
  refine s0_378 ?_
  refine s0_380 ?_
  refine s0_382 (fun h => absurd h (by decide)) (fun _ => ?_)
  refine s0_385 ?_
  refine s0_387 ?_
  refine s0_388 ?_
  refine s0_389 rfl (own_r61 a b c pd w) rfl ?_
  refine s0_392 ?_
  refine s0_394c (fun h => absurd rfl h) (fun _ => ?_)
  refine s0_398 ?_
  refine s0_400 ?_
  refine s0_401 ?_
  refine s0_402 rfl (own_r62 a b c pd w) rfl ?_
  refine s0_405 ?_
  refine s0_407c (fun h => absurd rfl h) (fun _ => ?_)
  refine s0_411 ?_
  refine s0_413 ?_
  refine s0_414 ?_
  refine s0_415 rfl (own_r63 a b c pd w) rfl ?_
  refine s0_418 ?_
  refine s0_420c (fun h => absurd h (by decide)) (fun _ => ?_)
  refine s0_424 ?_
  refine s0_425 ?_
  exact s0_429 rfl
set_option maxHeartbeats 4000000 in
theorem own_c1d0d (a b c pd : Int32) (w : Int64) (flags : Int32) (ha : w < a.toInt64 - pd.toInt64) (hc : w < c.toInt64 - pd.toInt64) : W0 room_1 57 [.val (.int a), .val (.int b), .val (.int c), .val (.int pd), .val (.long w), .second, .val (.int flags), .val (.int 1), .val (.int 0), .val (.int 1), .val (.int 1), .unset, .unset, .unset, .unset, .unset, .unset, .unset, .unset, .unset, .unset, .unset, .unset, .unset, .unset, .unset] [] [] (fun r _ => r = some (.int 1)) := by
  refine s0_57 ?_
  refine s0_58 0 2 (by decide) rfl rfl ?_
  refine s0_60 rfl ?_
  refine s0_61 ?_
  refine s0_62 ?_
  refine s0_63 0 rfl (by decide) rfl ?_
  refine s0_64 rfl ?_
  refine s0_65 ?_
  refine s0_66 ?_
  refine s0_67 1 rfl (by decide) rfl ?_
  refine s0_68 rfl ?_
  refine s0_70 ?_
  refine s0_71 1 2 (by decide) rfl rfl ?_
  refine s0_73 rfl ?_
  refine s0_74 ?_
  refine s0_75 ?_
  refine s0_76 0 rfl (by decide) rfl ?_
  refine s0_77 rfl ?_
  refine s0_78 ?_
  refine s0_79 ?_
  refine s0_80 1 rfl (by decide) rfl ?_
  refine s0_81 rfl ?_
  refine s0_83 2 rfl rfl ?_
  refine s0_86 rfl ?_
  refine s0_87 ?_
  refine s0_89 ?_
  refine s0_91 ?_
  refine s0_93 (own_r2 a b c pd w) rfl ?_
  refine s0_96 rfl ?_
  refine s0_98 ?_
  refine s0_100 (fun h => absurd h (by decide)) (fun _ => ?_)
  refine s0_103 ?_
  refine s0_105 ?_
  refine s0_106 rfl (own_r8 a b c pd w) rfl ?_
  refine s0_109 ?_
  refine s0_111 ?_
  refine s0_112 ?_
  refine s0_113 ?_
  refine s0_114 rfl (own_r10 a b c pd w) rfl ?_
  refine s0_117 ?_
  refine s0_119 (fun h => absurd h (by decide)) (fun _ => ?_)
  refine s0_122 ?_
  refine s0_124 ?_
  refine s0_125 rfl (own_r56 a b c pd w) rfl ?_
  refine s0_128 ?_
  refine s0_130 ?_
  refine s0_131 ?_
  refine s0_132 ?_
  refine s0_133 rfl (own_r58 a b c pd w) rfl ?_
  refine s0_136 ?_
  refine s0_138 (fun _ => ?_) (fun h => absurd h (by decide))
  refine s0_155 ?_
  refine s0_157 (fun h => absurd h (by decide)) (fun _ => ?_)
  refine s0_160 ?_
  refine s0_161 ?_
  refine s0_165 rfl ?_
  refine s0_167 ?_
  refine s0_169 ?_
  refine s0_171 ?_
  refine s0_172 rfl (own_r163 a b c pd w ha hc) rfl ?_
  refine s0_175 rfl ?_
  refine s0_177 ?_
  refine s0_179 (fun h => absurd h (by decide)) (fun _ => ?_)
  refine s0_182 ?_
  refine s0_183 ?_
  refine s0_184 ?_
  refine s0_186 (own_fit0 _ _ _ _ hc) rfl ?_
  refine s0_189 (fun _ => ?_) (fun h => absurd h (by decide))
  refine s0_196 ?_
  refine s0_197 rfl ?_
  refine s0_199 ?_
  refine s0_201 (fun h => absurd h (by decide)) (fun _ => ?_)
  refine s0_204 ?_
  refine s0_205 ?_
  refine s0_206 ?_
  refine s0_208 (own_fit0 _ _ _ _ ha) rfl ?_
  refine s0_211 (fun _ => ?_) (fun h => absurd h (by decide))
  refine s0_218 ?_
  refine s0_219 rfl ?_
  refine s0_221 ?_
  refine s0_223 (fun _ => ?_) (fun h => absurd h (by decide))
  refine s0_240 ?_
  refine s0_241 rfl ?_
  refine s0_243 ?_
  refine s0_245 (fun h => absurd h (by decide)) (fun _ => ?_)
  refine s0_248 ?_
  refine s0_250 (fun _ => ?_) (fun h => absurd h (by decide))
  refine s0_258 ?_
  refine s0_261 ?_
  refine s0_277 rfl ?_
  refine s0_279 ?_
  refine s0_281 (fun _ => ?_) (fun h => absurd h (by decide))
  refine s0_300 ?_
  refine s0_302 (fun h => absurd h (by decide)) (fun _ => ?_)
  refine s0_305 ?_
  refine s0_306 ?_
  refine s0_307 ?_
  refine s0_313 rfl ?_
  refine s0_315 ?_
  refine s0_317 (fun _ => ?_) (fun h => absurd h (by decide))
  refine s0_336 ?_
  refine s0_338 (fun _ => ?_) (fun h => absurd h (by decide))
  refine s0_346 ?_
  refine s0_349 rfl ?_
  refine s0_351 ?_
  refine s0_353 (fun h => absurd h (by decide)) (fun _ => ?_)
  refine s0_356 ?_
  refine s0_358 ?_
  refine s0_376 rfl ?_
  refine s0_378 ?_
  refine s0_380 ?_
  refine s0_382 (fun h => absurd h (by decide)) (fun _ => ?_)
  refine s0_385 ?_
  refine s0_387 ?_
  refine s0_388 ?_
  refine s0_389 rfl (own_r53 a b c pd w) rfl ?_
  refine s0_392 ?_
  refine s0_394c (fun h => absurd h (by decide)) (fun _ => ?_)
  refine s0_398 ?_
  refine s0_400 ?_
  refine s0_401 ?_
  refine s0_402 rfl (own_r54 a b c pd w) rfl ?_
  refine s0_405 ?_
  refine s0_407c (fun h => absurd rfl h) (fun _ => ?_)
  refine s0_411 ?_
  refine s0_413 ?_
  refine s0_414 ?_
  refine s0_415 rfl (own_r55 a b c pd w) rfl ?_
  refine s0_418 ?_
  refine s0_420c (fun h => absurd h (by decide)) (fun _ => ?_)
  refine s0_424 ?_
  refine s0_425 ?_
  exact s0_429 rfl
set_option maxHeartbeats 4000000 in
theorem own_c1dk0 (a b c pd : Int32) (w : Int64) (flags : Int32) (ha : w < a.toInt64 - pd.toInt64) (hb : ¬ w < b.toInt64 - pd.toInt64) : W0 room_1 57 [.val (.int a), .val (.int b), .val (.int c), .val (.int pd), .val (.long w), .second, .val (.int flags), .val (.int 1), .val (.int 1), .val (.int 0), .val (.int 1), .unset, .unset, .unset, .unset, .unset, .unset, .unset, .unset, .unset, .unset, .unset, .unset, .unset, .unset, .unset] [] [] (fun r _ => r = some (.int 1)) := by
  refine s0_57 ?_
  refine s0_58 0 2 (by decide) rfl rfl ?_
  refine s0_60 rfl ?_
  refine s0_61 ?_
  refine s0_62 ?_
  refine s0_63 0 rfl (by decide) rfl ?_
  refine s0_64 rfl ?_
  refine s0_65 ?_
  refine s0_66 ?_
  refine s0_67 1 rfl (by decide) rfl ?_
  refine s0_68 rfl ?_
  refine s0_70 ?_
  refine s0_71 1 2 (by decide) rfl rfl ?_
  refine s0_73 rfl ?_
  refine s0_74 ?_
  refine s0_75 ?_
  refine s0_76 0 rfl (by decide) rfl ?_
  refine s0_77 rfl ?_
  refine s0_78 ?_
  refine s0_79 ?_
  refine s0_80 1 rfl (by decide) rfl ?_
  refine s0_81 rfl ?_
  refine s0_83 2 rfl rfl ?_
  refine s0_86 rfl ?_
  refine s0_87 ?_
  refine s0_89 ?_
  refine s0_91 ?_
  refine s0_93 (own_r2 a b c pd w) rfl ?_
  refine s0_96 rfl ?_
  refine s0_98 ?_
  refine s0_100 (fun _ => ?_) (fun h => absurd h (by decide))
  refine s0_117 ?_
  refine s0_119 (fun h => absurd h (by decide)) (fun _ => ?_)
  refine s0_122 ?_
  refine s0_124 ?_
  refine s0_125 rfl (own_r48 a b c pd w) rfl ?_
  refine s0_128 ?_
  refine s0_130 ?_
  refine s0_131 ?_
  refine s0_132 ?_
  refine s0_133 rfl (own_r50 a b c pd w) rfl ?_
  refine s0_136 ?_
  refine s0_138 (fun h => absurd h (by decide)) (fun _ => ?_)
  refine s0_141 ?_
  refine s0_143 ?_
  refine s0_144 rfl (own_r66 a b c pd w) rfl ?_
  refine s0_147 ?_
  refine s0_149 ?_
  refine s0_150 ?_
  refine s0_151 ?_
  refine s0_152 rfl (own_r68 a b c pd w) rfl ?_
  refine s0_155 ?_
  refine s0_157 (fun h => absurd h (by decide)) (fun _ => ?_)
  refine s0_160 ?_
  refine s0_161 ?_
  refine s0_165 rfl ?_
  refine s0_167 ?_
  refine s0_169 ?_
  refine s0_171 ?_
  refine s0_172 rfl (own_r165 a b c pd w ha hb) rfl ?_
  refine s0_175 rfl ?_
  refine s0_177 ?_
  refine s0_179 (fun _ => ?_) (fun h => absurd h (by decide))
  refine s0_196 ?_
  refine s0_197 rfl ?_
  refine s0_199 ?_
  refine s0_201 (fun h => absurd h (by decide)) (fun _ => ?_)
  refine s0_204 ?_
  refine s0_205 ?_
  refine s0_206 ?_
  refine s0_208 (own_fit0 _ _ _ _ ha) rfl ?_
  refine s0_211 (fun _ => ?_) (fun h => absurd h (by decide))
  refine s0_218 ?_
  refine s0_219 rfl ?_
  refine s0_221 ?_
  refine s0_223 (fun h => absurd h (by decide)) (fun _ => ?_)
  refine s0_226 ?_
  refine s0_227 ?_
  refine s0_228 ?_
  refine s0_230 (own_fit1 _ _ _ _ hb) rfl ?_
  refine s0_233 (fun h => absurd h (by decide)) (fun _ => ?_)
  refine s0_236 ?_
  refine s0_237 ?_
  refine s0_241 rfl ?_
  refine s0_243 ?_
  refine s0_245 (fun h => absurd h (by decide)) (fun _ => ?_)
  refine s0_248 ?_
  refine s0_250 (fun _ => ?_) (fun h => absurd h (by decide))
  refine s0_258 ?_
  refine s0_261 ?_
  refine s0_277 rfl ?_
  refine s0_279 ?_
  refine s0_281 (fun _ => ?_) (fun h => absurd h (by decide))
  refine s0_300 ?_
  refine s0_302 (fun h => absurd h (by decide)) (fun _ => ?_)
  refine s0_305 ?_
  refine s0_306 ?_
  refine s0_307 ?_
  refine s0_313 rfl ?_
  refine s0_315 ?_
  refine s0_317 (fun _ => ?_) (fun h => absurd h (by decide))
  refine s0_336 ?_
  refine s0_338 (fun h => absurd h (by decide)) (fun _ => ?_)
  refine s0_341 ?_
  refine s0_342 ?_
  refine s0_343 ?_
  refine s0_349 rfl ?_
  refine s0_351 ?_
  refine s0_353 (fun h => absurd h (by decide)) (fun _ => ?_)
  refine s0_356 ?_
  refine s0_358 ?_
  refine s0_376 rfl ?_
  refine s0_378 ?_
  refine s0_380 ?_
  refine s0_382 (fun h => absurd h (by decide)) (fun _ => ?_)
  refine s0_385 ?_
  refine s0_387 ?_
  refine s0_388 ?_
  refine s0_389 rfl (own_r71 a b c pd w) rfl ?_
  refine s0_392 ?_
  refine s0_394c (fun h => absurd h (by decide)) (fun _ => ?_)
  refine s0_398 ?_
  refine s0_400 ?_
  refine s0_401 ?_
  refine s0_402 rfl (own_r72 a b c pd w) rfl ?_
  refine s0_405 ?_
  refine s0_407c (fun h => absurd rfl h) (fun _ => ?_)
  refine s0_411 ?_
  refine s0_413 ?_
  refine s0_414 ?_
  refine s0_415 rfl (own_r73 a b c pd w) rfl ?_
  refine s0_418 ?_
  refine s0_420c (fun h => absurd rfl h) (fun _ => ?_)
  refine s0_424 ?_
  refine s0_425 ?_
  exact s0_429 rfl
set_option maxHeartbeats 4000000 in
theorem own_c1dkk (a b c pd : Int32) (w : Int64) (flags : Int32) (ha : w < a.toInt64 - pd.toInt64) (hb : ¬ w < b.toInt64 - pd.toInt64) (hc : ¬ w < c.toInt64 - pd.toInt64) : W0 room_1 57 [.val (.int a), .val (.int b), .val (.int c), .val (.int pd), .val (.long w), .second, .val (.int flags), .val (.int 1), .val (.int 1), .val (.int 1), .val (.int 1), .unset, .unset, .unset, .unset, .unset, .unset, .unset, .unset, .unset, .unset, .unset, .unset, .unset, .unset, .unset] [] [] (fun r _ => r = some (.int 1)) := by
  refine s0_57 ?_
  refine s0_58 0 2 (by decide) rfl rfl ?_
  refine s0_60 rfl ?_
  refine s0_61 ?_
  refine s0_62 ?_
  refine s0_63 0 rfl (by decide) rfl ?_
  refine s0_64 rfl ?_
  refine s0_65 ?_
  refine s0_66 ?_
  refine s0_67 1 rfl (by decide) rfl ?_
  refine s0_68 rfl ?_
  refine s0_70 ?_
  refine s0_71 1 2 (by decide) rfl rfl ?_
  refine s0_73 rfl ?_
  refine s0_74 ?_
  refine s0_75 ?_
  refine s0_76 0 rfl (by decide) rfl ?_
  refine s0_77 rfl ?_
  refine s0_78 ?_
  refine s0_79 ?_
  refine s0_80 1 rfl (by decide) rfl ?_
  refine s0_81 rfl ?_
  refine s0_83 2 rfl rfl ?_
  refine s0_86 rfl ?_
  refine s0_87 ?_
  refine s0_89 ?_
  refine s0_91 ?_
  refine s0_93 (own_r2 a b c pd w) rfl ?_
  refine s0_96 rfl ?_
  refine s0_98 ?_
  refine s0_100 (fun h => absurd h (by decide)) (fun _ => ?_)
  refine s0_103 ?_
  refine s0_105 ?_
  refine s0_106 rfl (own_r8 a b c pd w) rfl ?_
  refine s0_109 ?_
  refine s0_111 ?_
  refine s0_112 ?_
  refine s0_113 ?_
  refine s0_114 rfl (own_r10 a b c pd w) rfl ?_
  refine s0_117 ?_
  refine s0_119 (fun h => absurd h (by decide)) (fun _ => ?_)
  refine s0_122 ?_
  refine s0_124 ?_
  refine s0_125 rfl (own_r56 a b c pd w) rfl ?_
  refine s0_128 ?_
  refine s0_130 ?_
  refine s0_131 ?_
  refine s0_132 ?_
  refine s0_133 rfl (own_r58 a b c pd w) rfl ?_
  refine s0_136 ?_
  refine s0_138 (fun h => absurd h (by decide)) (fun _ => ?_)
  refine s0_141 ?_
  refine s0_143 ?_
  refine s0_144 rfl (own_r74 a b c pd w) rfl ?_
  refine s0_147 ?_
  refine s0_149 ?_
  refine s0_150 ?_
  refine s0_151 ?_
  refine s0_152 rfl (own_r76 a b c pd w) rfl ?_
  refine s0_155 ?_
  refine s0_157 (fun h => absurd h (by decide)) (fun _ => ?_)
  refine s0_160 ?_
  refine s0_161 ?_
  refine s0_165 rfl ?_
  refine s0_167 ?_
  refine s0_169 ?_
  refine s0_171 ?_
  refine s0_172 rfl (own_r167 a b c pd w ha hb hc) rfl ?_
  refine s0_175 rfl ?_
  refine s0_177 ?_
  refine s0_179 (fun h => absurd h (by decide)) (fun _ => ?_)
  refine s0_182 ?_
  refine s0_183 ?_
  refine s0_184 ?_
  refine s0_186 (own_fit1 _ _ _ _ hc) rfl ?_
  refine s0_189 (fun h => absurd h (by decide)) (fun _ => ?_)
  refine s0_192 ?_
  refine s0_193 ?_
  refine s0_197 rfl ?_
  refine s0_199 ?_
  refine s0_201 (fun h => absurd h (by decide)) (fun _ => ?_)
  refine s0_204 ?_
  refine s0_205 ?_
  refine s0_206 ?_
  refine s0_208 (own_fit0 _ _ _ _ ha) rfl ?_
  refine s0_211 (fun _ => ?_) (fun h => absurd h (by decide))
  refine s0_218 ?_
  refine s0_219 rfl ?_
  refine s0_221 ?_
  refine s0_223 (fun h => absurd h (by decide)) (fun _ => ?_)
  refine s0_226 ?_
  refine s0_227 ?_
  refine s0_228 ?_
  refine s0_230 (own_fit1 _ _ _ _ hb) rfl ?_
  refine s0_233 (fun h => absurd h (by decide)) (fun _ => ?_)
  refine s0_236 ?_
  refine s0_237 ?_
  refine s0_241 rfl ?_
  refine s0_243 ?_
  refine s0_245 (fun h => absurd h (by decide)) (fun _ => ?_)
  refine s0_248 ?_
  refine s0_250 (fun h => absurd h (by decide)) (fun _ => ?_)
  refine s0_253 ?_
  refine s0_254 ?_
  refine s0_255 ?_
  refine s0_277 rfl ?_
  refine s0_279 ?_
  refine s0_281 (fun _ => ?_) (fun h => absurd h (by decide))
  refine s0_300 ?_
  refine s0_302 (fun h => absurd h (by decide)) (fun _ => ?_)
  refine s0_305 ?_
  refine s0_306 ?_
  refine s0_307 ?_
  refine s0_313 rfl ?_
  refine s0_315 ?_
  refine s0_317 (fun _ => ?_) (fun h => absurd h (by decide))
  refine s0_336 ?_
  refine s0_338 (fun h => absurd h (by decide)) (fun _ => ?_)
  refine s0_341 ?_
  refine s0_342 ?_
  refine s0_343 ?_
  refine s0_349 rfl ?_
  refine s0_351 ?_
  refine s0_353 (fun h => absurd h (by decide)) (fun _ => ?_)
  refine s0_356 ?_
  refine s0_358 ?_
  refine s0_376 rfl ?_
  refine s0_378 ?_
  refine s0_380 ?_
  refine s0_382 (fun h => absurd h (by decide)) (fun _ => ?_)
  refine s0_385 ?_
  refine s0_387 ?_
  refine s0_388 ?_
  refine s0_389 rfl (own_r79 a b c pd w) rfl ?_
  refine s0_392 ?_
  refine s0_394c (fun h => absurd rfl h) (fun _ => ?_)
  refine s0_398 ?_
  refine s0_400 ?_
  refine s0_401 ?_
  refine s0_402 rfl (own_r80 a b c pd w) rfl ?_
  refine s0_405 ?_
  refine s0_407c (fun h => absurd rfl h) (fun _ => ?_)
  refine s0_411 ?_
  refine s0_413 ?_
  refine s0_414 ?_
  refine s0_415 rfl (own_r81 a b c pd w) rfl ?_
  refine s0_418 ?_
  refine s0_420c (fun h => absurd rfl h) (fun _ => ?_)
  refine s0_424 ?_
  refine s0_425 ?_
  exact s0_429 rfl
set_option maxHeartbeats 4000000 in
theorem own_c1dkd (a b c pd : Int32) (w : Int64) (flags : Int32) (ha : w < a.toInt64 - pd.toInt64) (hb : ¬ w < b.toInt64 - pd.toInt64) (hc : w < c.toInt64 - pd.toInt64) : W0 room_1 57 [.val (.int a), .val (.int b), .val (.int c), .val (.int pd), .val (.long w), .second, .val (.int flags), .val (.int 1), .val (.int 1), .val (.int 1), .val (.int 1), .unset, .unset, .unset, .unset, .unset, .unset, .unset, .unset, .unset, .unset, .unset, .unset, .unset, .unset, .unset] [] [] (fun r _ => r = some (.int 1)) := by
  refine s0_57 ?_
  refine s0_58 0 2 (by decide) rfl rfl ?_
  refine s0_60 rfl ?_
  refine s0_61 ?_
  refine s0_62 ?_
  refine s0_63 0 rfl (by decide) rfl ?_
  refine s0_64 rfl ?_
  refine s0_65 ?_
  refine s0_66 ?_
  refine s0_67 1 rfl (by decide) rfl ?_
  refine s0_68 rfl ?_
  refine s0_70 ?_
  refine s0_71 1 2 (by decide) rfl rfl ?_
  refine s0_73 rfl ?_
  refine s0_74 ?_
  refine s0_75 ?_
  refine s0_76 0 rfl (by decide) rfl ?_
  refine s0_77 rfl ?_
  refine s0_78 ?_
  refine s0_79 ?_
  refine s0_80 1 rfl (by decide) rfl ?_
  refine s0_81 rfl ?_
  refine s0_83 2 rfl rfl ?_
  refine s0_86 rfl ?_
  refine s0_87 ?_
  refine s0_89 ?_
  refine s0_91 ?_
  refine s0_93 (own_r2 a b c pd w) rfl ?_
  refine s0_96 rfl ?_
  refine s0_98 ?_
  refine s0_100 (fun h => absurd h (by decide)) (fun _ => ?_)
  refine s0_103 ?_
  refine s0_105 ?_
  refine s0_106 rfl (own_r8 a b c pd w) rfl ?_
  refine s0_109 ?_
  refine s0_111 ?_
  refine s0_112 ?_
  refine s0_113 ?_
  refine s0_114 rfl (own_r10 a b c pd w) rfl ?_
  refine s0_117 ?_
  refine s0_119 (fun h => absurd h (by decide)) (fun _ => ?_)
  refine s0_122 ?_
  refine s0_124 ?_
  refine s0_125 rfl (own_r56 a b c pd w) rfl ?_
  refine s0_128 ?_
  refine s0_130 ?_
  refine s0_131 ?_
  refine s0_132 ?_
  refine s0_133 rfl (own_r58 a b c pd w) rfl ?_
  refine s0_136 ?_
  refine s0_138 (fun h => absurd h (by decide)) (fun _ => ?_)
  refine s0_141 ?_
  refine s0_143 ?_
  refine s0_144 rfl (own_r74 a b c pd w) rfl ?_
  refine s0_147 ?_
  refine s0_149 ?_
  refine s0_150 ?_
  refine s0_151 ?_
  refine s0_152 rfl (own_r76 a b c pd w) rfl ?_
  refine s0_155 ?_
  refine s0_157 (fun h => absurd h (by decide)) (fun _ => ?_)
  refine s0_160 ?_
  refine s0_161 ?_
  refine s0_165 rfl ?_
  refine s0_167 ?_
  refine s0_169 ?_
  refine s0_171 ?_
  refine s0_172 rfl (own_r169 a b c pd w ha hb hc) rfl ?_
  refine s0_175 rfl ?_
  refine s0_177 ?_
  refine s0_179 (fun h => absurd h (by decide)) (fun _ => ?_)
  refine s0_182 ?_
  refine s0_183 ?_
  refine s0_184 ?_
  refine s0_186 (own_fit0 _ _ _ _ hc) rfl ?_
  refine s0_189 (fun _ => ?_) (fun h => absurd h (by decide))
  refine s0_196 ?_
  refine s0_197 rfl ?_
  refine s0_199 ?_
  refine s0_201 (fun h => absurd h (by decide)) (fun _ => ?_)
  refine s0_204 ?_
  refine s0_205 ?_
  refine s0_206 ?_
  refine s0_208 (own_fit0 _ _ _ _ ha) rfl ?_
  refine s0_211 (fun _ => ?_) (fun h => absurd h (by decide))
  refine s0_218 ?_
  refine s0_219 rfl ?_
  refine s0_221 ?_
  refine s0_223 (fun h => absurd h (by decide)) (fun _ => ?_)
  refine s0_226 ?_
  refine s0_227 ?_
  refine s0_228 ?_
  refine s0_230 (own_fit1 _ _ _ _ hb) rfl ?_
  refine s0_233 (fun h => absurd h (by decide)) (fun _ => ?_)
  refine s0_236 ?_
  refine s0_237 ?_
  refine s0_241 rfl ?_
  refine s0_243 ?_
  refine s0_245 (fun h => absurd h (by decide)) (fun _ => ?_)
  refine s0_248 ?_
  refine s0_250 (fun _ => ?_) (fun h => absurd h (by decide))
  refine s0_258 ?_
  refine s0_261 ?_
  refine s0_277 rfl ?_
  refine s0_279 ?_
  refine s0_281 (fun _ => ?_) (fun h => absurd h (by decide))
  refine s0_300 ?_
  refine s0_302 (fun h => absurd h (by decide)) (fun _ => ?_)
  refine s0_305 ?_
  refine s0_306 ?_
  refine s0_307 ?_
  refine s0_313 rfl ?_
  refine s0_315 ?_
  refine s0_317 (fun _ => ?_) (fun h => absurd h (by decide))
  refine s0_336 ?_
  refine s0_338 (fun h => absurd h (by decide)) (fun _ => ?_)
  refine s0_341 ?_
  refine s0_342 ?_
  refine s0_343 ?_
  refine s0_349 rfl ?_
  refine s0_351 ?_
  refine s0_353 (fun h => absurd h (by decide)) (fun _ => ?_)
  refine s0_356 ?_
  refine s0_358 ?_
  refine s0_376 rfl ?_
  refine s0_378 ?_
  refine s0_380 ?_
  refine s0_382 (fun h => absurd h (by decide)) (fun _ => ?_)
  refine s0_385 ?_
  refine s0_387 ?_
  refine s0_388 ?_
  refine s0_389 rfl (own_r71 a b c pd w) rfl ?_
  refine s0_392 ?_
  refine s0_394c (fun h => absurd h (by decide)) (fun _ => ?_)
  refine s0_398 ?_
  refine s0_400 ?_
  refine s0_401 ?_
  refine s0_402 rfl (own_r72 a b c pd w) rfl ?_
  refine s0_405 ?_
  refine s0_407c (fun h => absurd rfl h) (fun _ => ?_)
  refine s0_411 ?_
  refine s0_413 ?_
  refine s0_414 ?_
  refine s0_415 rfl (own_r73 a b c pd w) rfl ?_
  refine s0_418 ?_
  refine s0_420c (fun h => absurd rfl h) (fun _ => ?_)
  refine s0_424 ?_
  refine s0_425 ?_
  exact s0_429 rfl
set_option maxHeartbeats 4000000 in
theorem own_c1dd0 (a b c pd : Int32) (w : Int64) (flags : Int32) (ha : w < a.toInt64 - pd.toInt64) (hb : w < b.toInt64 - pd.toInt64) : W0 room_1 57 [.val (.int a), .val (.int b), .val (.int c), .val (.int pd), .val (.long w), .second, .val (.int flags), .val (.int 1), .val (.int 1), .val (.int 0), .val (.int 1), .unset, .unset, .unset, .unset, .unset, .unset, .unset, .unset, .unset, .unset, .unset, .unset, .unset, .unset, .unset] [] [] (fun r _ => r = some (.int 1)) := by
  refine s0_57 ?_
  refine s0_58 0 2 (by decide) rfl rfl ?_
  refine s0_60 rfl ?_
  refine s0_61 ?_
  refine s0_62 ?_
  refine s0_63 0 rfl (by decide) rfl ?_
  refine s0_64 rfl ?_
  refine s0_65 ?_
  refine s0_66 ?_
  refine s0_67 1 rfl (by decide) rfl ?_
  refine s0_68 rfl ?_
  refine s0_70 ?_
  refine s0_71 1 2 (by decide) rfl rfl ?_
  refine s0_73 rfl ?_
  refine s0_74 ?_
  refine s0_75 ?_
  refine s0_76 0 rfl (by decide) rfl ?_
  refine s0_77 rfl ?_
  refine s0_78 ?_
  refine s0_79 ?_
  refine s0_80 1 rfl (by decide) rfl ?_
  refine s0_81 rfl ?_
  refine s0_83 2 rfl rfl ?_
  refine s0_86 rfl ?_
  refine s0_87 ?_
  refine s0_89 ?_
  refine s0_91 ?_
  refine s0_93 (own_r2 a b c pd w) rfl ?_
  refine s0_96 rfl ?_
  refine s0_98 ?_
  refine s0_100 (fun _ => ?_) (fun h => absurd h (by decide))
  refine s0_117 ?_
  refine s0_119 (fun h => absurd h (by decide)) (fun _ => ?_)
  refine s0_122 ?_
  refine s0_124 ?_
  refine s0_125 rfl (own_r48 a b c pd w) rfl ?_
  refine s0_128 ?_
  refine s0_130 ?_
  refine s0_131 ?_
  refine s0_132 ?_
  refine s0_133 rfl (own_r50 a b c pd w) rfl ?_
  refine s0_136 ?_
  refine s0_138 (fun h => absurd h (by decide)) (fun _ => ?_)
  refine s0_141 ?_
  refine s0_143 ?_
  refine s0_144 rfl (own_r66 a b c pd w) rfl ?_
  refine s0_147 ?_
  refine s0_149 ?_
  refine s0_150 ?_
  refine s0_151 ?_
  refine s0_152 rfl (own_r68 a b c pd w) rfl ?_
  refine s0_155 ?_
  refine s0_157 (fun h => absurd h (by decide)) (fun _ => ?_)
  refine s0_160 ?_
  refine s0_161 ?_
  refine s0_165 rfl ?_
  refine s0_167 ?_
  refine s0_169 ?_
  refine s0_171 ?_
  refine s0_172 rfl (own_r171 a b c pd w ha hb) rfl ?_
  refine s0_175 rfl ?_
  refine s0_177 ?_
  refine s0_179 (fun _ => ?_) (fun h => absurd h (by decide))
  refine s0_196 ?_
  refine s0_197 rfl ?_
  refine s0_199 ?_
  refine s0_201 (fun h => absurd h (by decide)) (fun _ => ?_)
  refine s0_204 ?_
  refine s0_205 ?_
  refine s0_206 ?_
  refine s0_208 (own_fit0 _ _ _ _ ha) rfl ?_
  refine s0_211 (fun _ => ?_) (fun h => absurd h (by decide))
  refine s0_218 ?_
  refine s0_219 rfl ?_
  refine s0_221 ?_
  refine s0_223 (fun h => absurd h (by decide)) (fun _ => ?_)
  refine s0_226 ?_
  refine s0_227 ?_
  refine s0_228 ?_
  refine s0_230 (own_fit0 _ _ _ _ hb) rfl ?_
  refine s0_233 (fun _ => ?_) (fun h => absurd h (by decide))
  refine s0_240 ?_
  refine s0_241 rfl ?_
  refine s0_243 ?_
  refine s0_245 (fun h => absurd h (by decide)) (fun _ => ?_)
  refine s0_248 ?_
  refine s0_250 (fun _ => ?_) (fun h => absurd h (by decide))
  refine s0_258 ?_
  refine s0_261 ?_
  refine s0_277 rfl ?_
  refine s0_279 ?_
  refine s0_281 (fun _ => ?_) (fun h => absurd h (by decide))
  refine s0_300 ?_
  refine s0_302 (fun h => absurd h (by decide)) (fun _ => ?_)
  refine s0_305 ?_
  refine s0_306 ?_
  refine s0_307 ?_
  refine s0_313 rfl ?_
  refine s0_315 ?_
  refine s0_317 (fun _ => ?_) (fun h => absurd h (by decide))
  refine s0_336 ?_
  refine s0_338 (fun h => absurd h (by decide)) (fun _ => ?_)
  refine s0_341 ?_
  refine s0_342 ?_
  refine s0_343 ?_
  refine s0_349 rfl ?_
  refine s0_351 ?_
  refine s0_353 (fun h => absurd h (by decide)) (fun _ => ?_)
  refine s0_356 ?_
  refine s0_358 ?_
  refine s0_376 rfl ?_
  refine s0_378 ?_
  refine s0_380 ?_
  refine s0_382 (fun h => absurd h (by decide)) (fun _ => ?_)
  refine s0_385 ?_
  refine s0_387 ?_
  refine s0_388 ?_
  refine s0_389 rfl (own_r71 a b c pd w) rfl ?_
  refine s0_392 ?_
  refine s0_394c (fun h => absurd h (by decide)) (fun _ => ?_)
  refine s0_398 ?_
  refine s0_400 ?_
  refine s0_401 ?_
  refine s0_402 rfl (own_r72 a b c pd w) rfl ?_
  refine s0_405 ?_
  refine s0_407c (fun h => absurd rfl h) (fun _ => ?_)
  refine s0_411 ?_
  refine s0_413 ?_
  refine s0_414 ?_
  refine s0_415 rfl (own_r73 a b c pd w) rfl ?_
  refine s0_418 ?_
  refine s0_420c (fun h => absurd rfl h) (fun _ => ?_)
  refine s0_424 ?_
  refine s0_425 ?_
  exact s0_429 rfl
set_option maxHeartbeats 4000000 in
theorem own_c1ddk (a b c pd : Int32) (w : Int64) (flags : Int32) (ha : w < a.toInt64 - pd.toInt64) (hb : w < b.toInt64 - pd.toInt64) (hc : ¬ w < c.toInt64 - pd.toInt64) : W0 room_1 57 [.val (.int a), .val (.int b), .val (.int c), .val (.int pd), .val (.long w), .second, .val (.int flags), .val (.int 1), .val (.int 1), .val (.int 1), .val (.int 1), .unset, .unset, .unset, .unset, .unset, .unset, .unset, .unset, .unset, .unset, .unset, .unset, .unset, .unset, .unset] [] [] (fun r _ => r = some (.int 1)) := by
  refine s0_57 ?_
  refine s0_58 0 2 (by decide) rfl rfl ?_
  refine s0_60 rfl ?_
  refine s0_61 ?_
  refine s0_62 ?_
  refine s0_63 0 rfl (by decide) rfl ?_
  refine s0_64 rfl ?_
  refine s0_65 ?_
  refine s0_66 ?_
  refine s0_67 1 rfl (by decide) rfl ?_
  refine s0_68 rfl ?_
  refine s0_70 ?_
  refine s0_71 1 2 (by decide) rfl rfl ?_
  refine s0_73 rfl ?_
  refine s0_74 ?_
  refine s0_75 ?_
  refine s0_76 0 rfl (by decide) rfl ?_
  refine s0_77 rfl ?_
  refine s0_78 ?_
  refine s0_79 ?_
  refine s0_80 1 rfl (by decide) rfl ?_
  refine s0_81 rfl ?_
  refine s0_83 2 rfl rfl ?_
  refine s0_86 rfl ?_
  refine s0_87 ?_
  refine s0_89 ?_
  refine s0_91 ?_
  refine s0_93 (own_r2 a b c pd w) rfl ?_
  refine s0_96 rfl ?_
  refine s0_98 ?_
  refine s0_100 (fun h => absurd h (by decide)) (fun _ => ?_)
  refine s0_103 ?_
  refine s0_105 ?_
  refine s0_106 rfl (own_r8 a b c pd w) rfl ?_
  refine s0_109 ?_
  refine s0_111 ?_
  refine s0_112 ?_
  refine s0_113 ?_
  refine s0_114 rfl (own_r10 a b c pd w) rfl ?_
  refine s0_117 ?_
  refine s0_119 (fun h => absurd h (by decide)) (fun _ => ?_)
  refine s0_122 ?_
  refine s0_124 ?_
  refine s0_125 rfl (own_r56 a b c pd w) rfl ?_
  refine s0_128 ?_
  refine s0_130 ?_
  refine s0_131 ?_
  refine s0_132 ?_
  refine s0_133 rfl (own_r58 a b c pd w) rfl ?_
  refine s0_136 ?_
  refine s0_138 (fun h => absurd h (by decide)) (fun _ => ?_)
  refine s0_141 ?_
  refine s0_143 ?_
  refine s0_144 rfl (own_r74 a b c pd w) rfl ?_
  refine s0_147 ?_
  refine s0_149 ?_
  refine s0_150 ?_
  refine s0_151 ?_
  refine s0_152 rfl (own_r76 a b c pd w) rfl ?_
  refine s0_155 ?_
  refine s0_157 (fun h => absurd h (by decide)) (fun _ => ?_)
  refine s0_160 ?_
  refine s0_161 ?_
  refine s0_165 rfl ?_
  refine s0_167 ?_
  refine s0_169 ?_
  refine s0_171 ?_
  refine s0_172 rfl (own_r173 a b c pd w ha hb hc) rfl ?_
  refine s0_175 rfl ?_
  refine s0_177 ?_
  refine s0_179 (fun h => absurd h (by decide)) (fun _ => ?_)
  refine s0_182 ?_
  refine s0_183 ?_
  refine s0_184 ?_
  refine s0_186 (own_fit1 _ _ _ _ hc) rfl ?_
  refine s0_189 (fun h => absurd h (by decide)) (fun _ => ?_)
  refine s0_192 ?_
  refine s0_193 ?_
  refine s0_197 rfl ?_
  refine s0_199 ?_
  refine s0_201 (fun h => absurd h (by decide)) (fun _ => ?_)
  refine s0_204 ?_
  refine s0_205 ?_
  refine s0_206 ?_
  refine s0_208 (own_fit0 _ _ _ _ ha) rfl ?_
  refine s0_211 (fun _ => ?_) (fun h => absurd h (by decide))
  refine s0_218 ?_
  refine s0_219 rfl ?_
  refine s0_221 ?_
  refine s0_223 (fun h => absurd h (by decide)) (fun _ => ?_)
  refine s0_226 ?_
  refine s0_227 ?_
  refine s0_228 ?_
  refine s0_230 (own_fit0 _ _ _ _ hb) rfl ?_
  refine s0_233 (fun _ => ?_) (fun h => absurd h (by decide))
  refine s0_240 ?_
  refine s0_241 rfl ?_
  refine s0_243 ?_
  refine s0_245 (fun h => absurd h (by decide)) (fun _ => ?_)
  refine s0_248 ?_
  refine s0_250 (fun h => absurd h (by decide)) (fun _ => ?_)
  refine s0_253 ?_
  refine s0_254 ?_
  refine s0_255 ?_
  refine s0_277 rfl ?_
  refine s0_279 ?_
  refine s0_281 (fun _ => ?_) (fun h => absurd h (by decide))
  refine s0_300 ?_
  refine s0_302 (fun h => absurd h (by decide)) (fun _ => ?_)
  refine s0_305 ?_
  refine s0_306 ?_
  refine s0_307 ?_
  refine s0_313 rfl ?_
  refine s0_315 ?_
  refine s0_317 (fun _ => ?_) (fun h => absurd h (by decide))
  refine s0_336 ?_
  refine s0_338 (fun h => absurd h (by decide)) (fun _ => ?_)
  refine s0_341 ?_
  refine s0_342 ?_
  refine s0_343 ?_
  refine s0_349 rfl ?_
  refine s0_351 ?_
  refine s0_353 (fun h => absurd h (by decide)) (fun _ => ?_)
  refine s0_356 ?_
  refine s0_358 ?_
  refine s0_376 rfl ?_
  refine s0_378 ?_
  refine s0_380 ?_
  refine s0_382 (fun h => absurd h (by decide)) (fun _ => ?_)
  refine s0_385 ?_
  refine s0_387 ?_
  refine s0_388 ?_
  refine s0_389 rfl (own_r79 a b c pd w) rfl ?_
  refine s0_392 ?_
  refine s0_394c (fun h => absurd rfl h) (fun _ => ?_)
  refine s0_398 ?_
  refine s0_400 ?_
  refine s0_401 ?_
  refine s0_402 rfl (own_r80 a b c pd w) rfl ?_
  refine s0_405 ?_
  refine s0_407c (fun h => absurd rfl h) (fun _ => ?_)
  refine s0_411 ?_
  refine s0_413 ?_
  refine s0_414 ?_
  refine s0_415 rfl (own_r81 a b c pd w) rfl ?_
  refine s0_418 ?_
  refine s0_420c (fun h => absurd rfl h) (fun _ => ?_)
  refine s0_424 ?_
  refine s0_425 ?_
  exact s0_429 rfl
set_option maxHeartbeats 4000000 in
theorem own_c1ddd (a b c pd : Int32) (w : Int64) (flags : Int32) (ha : w < a.toInt64 - pd.toInt64) (hb : w < b.toInt64 - pd.toInt64) (hc : w < c.toInt64 - pd.toInt64) : W0 room_1 57 [.val (.int a), .val (.int b), .val (.int c), .val (.int pd), .val (.long w), .second, .val (.int flags), .val (.int 1), .val (.int 1), .val (.int 1), .val (.int 1), .unset, .unset, .unset, .unset, .unset, .unset, .unset, .unset, .unset, .unset, .unset, .unset, .unset, .unset, .unset] [] [] (fun r _ => r = some (.int 1)) := by
  refine s0_57 ?_
  refine s0_58 0 2 (by decide) rfl rfl ?_
  refine s0_60 rfl ?_
  refine s0_61 ?_
  refine s0_62 ?_
  refine s0_63 0 rfl (by decide) rfl ?_
  refine s0_64 rfl ?_
  refine s0_65 ?_
  refine s0_66 ?_
  refine s0_67 1 rfl (by decide) rfl ?_
  refine s0_68 rfl ?_
  refine s0_70 ?_
  refine s0_71 1 2 (by decide) rfl rfl ?_
  refine s0_73 rfl ?_
  refine s0_74 ?_
  refine s0_75 ?_
  refine s0_76 0 rfl (by decide) rfl ?_
  refine s0_77 rfl ?_
  refine s0_78 ?_
  refine s0_79 ?_
  refine s0_80 1 rfl (by decide) rfl ?_
  refine s0_81 rfl ?_
  refine s0_83 2 rfl rfl ?_
  refine s0_86 rfl ?_
  refine s0_87 ?_
  refine s0_89 ?_
  refine s0_91 ?_
  refine s0_93 (own_r2 a b c pd w) rfl ?_
  refine s0_96 rfl ?_
  refine s0_98 ?_
  refine s0_100 (fun h => absurd h (by decide)) (fun _ => ?_)
  refine s0_103 ?_
  refine s0_105 ?_
  refine s0_106 rfl (own_r8 a b c pd w) rfl ?_
  refine s0_109 ?_
  refine s0_111 ?_
  refine s0_112 ?_
  refine s0_113 ?_
  refine s0_114 rfl (own_r10 a b c pd w) rfl ?_
  refine s0_117 ?_
  refine s0_119 (fun h => absurd h (by decide)) (fun _ => ?_)
  refine s0_122 ?_
  refine s0_124 ?_
  refine s0_125 rfl (own_r56 a b c pd w) rfl ?_
  refine s0_128 ?_
  refine s0_130 ?_
  refine s0_131 ?_
  refine s0_132 ?_
  refine s0_133 rfl (own_r58 a b c pd w) rfl ?_
  refine s0_136 ?_
  refine s0_138 (fun h => absurd h (by decide)) (fun _ => ?_)
  refine s0_141 ?_
  refine s0_143 ?_
  refine s0_144 rfl (own_r74 a b c pd w) rfl ?_
  refine s0_147 ?_
  refine s0_149 ?_
  refine s0_150 ?_
  refine s0_151 ?_
  refine s0_152 rfl (own_r76 a b c pd w) rfl ?_
  refine s0_155 ?_
  refine s0_157 (fun h => absurd h (by decide)) (fun _ => ?_)
  refine s0_160 ?_
  refine s0_161 ?_
  refine s0_165 rfl ?_
  refine s0_167 ?_
  refine s0_169 ?_
  refine s0_171 ?_
  refine s0_172 rfl (own_r175 a b c pd w ha hb hc) rfl ?_
  refine s0_175 rfl ?_
  refine s0_177 ?_
  refine s0_179 (fun h => absurd h (by decide)) (fun _ => ?_)
  refine s0_182 ?_
  refine s0_183 ?_
  refine s0_184 ?_
  refine s0_186 (own_fit0 _ _ _ _ hc) rfl ?_
  refine s0_189 (fun _ => ?_) (fun h => absurd h (by decide))
  refine s0_196 ?_
  refine s0_197 rfl ?_
  refine s0_199 ?_
  refine s0_201 (fun h => absurd h (by decide)) (fun _ => ?_)
  refine s0_204 ?_
  refine s0_205 ?_
  refine s0_206 ?_
  refine s0_208 (own_fit0 _ _ _ _ ha) rfl ?_
  refine s0_211 (fun _ => ?_) (fun h => absurd h (by decide))
  refine s0_218 ?_
  refine s0_219 rfl ?_
  refine s0_221 ?_
  refine s0_223 (fun h => absurd h (by decide)) (fun _ => ?_)
  refine s0_226 ?_
  refine s0_227 ?_
  refine s0_228 ?_
  refine s0_230 (own_fit0 _ _ _ _ hb) rfl ?_
  refine s0_233 (fun _ => ?_) (fun h => absurd h (by decide))
  refine s0_240 ?_
  refine s0_241 rfl ?_
  refine s0_243 ?_
  refine s0_245 (fun h => absurd h (by decide)) (fun _ => ?_)
  refine s0_248 ?_
  refine s0_250 (fun _ => ?_) (fun h => absurd h (by decide))
  refine s0_258 ?_
  refine s0_261 ?_
  refine s0_277 rfl ?_
  refine s0_279 ?_
  refine s0_281 (fun _ => ?_) (fun h => absurd h (by decide))
  refine s0_300 ?_
  refine s0_302 (fun h => absurd h (by decide)) (fun _ => ?_)
  refine s0_305 ?_
  refine s0_306 ?_
  refine s0_307 ?_
  refine s0_313 rfl ?_
  refine s0_315 ?_
  refine s0_317 (fun _ => ?_) (fun h => absurd h (by decide))
  refine s0_336 ?_
  refine s0_338 (fun h => absurd h (by decide)) (fun _ => ?_)
  refine s0_341 ?_
  refine s0_342 ?_
  refine s0_343 ?_
  refine s0_349 rfl ?_
  refine s0_351 ?_
  refine s0_353 (fun h => absurd h (by decide)) (fun _ => ?_)
  refine s0_356 ?_
  refine s0_358 ?_
  refine s0_376 rfl ?_
  refine s0_378 ?_
  refine s0_380 ?_
  refine s0_382 (fun h => absurd h (by decide)) (fun _ => ?_)
  refine s0_385 ?_
  refine s0_387 ?_
  refine s0_388 ?_
  refine s0_389 rfl (own_r71 a b c pd w) rfl ?_
  refine s0_392 ?_
  refine s0_394c (fun h => absurd h (by decide)) (fun _ => ?_)
  refine s0_398 ?_
  refine s0_400 ?_
  refine s0_401 ?_
  refine s0_402 rfl (own_r72 a b c pd w) rfl ?_
  refine s0_405 ?_
  refine s0_407c (fun h => absurd rfl h) (fun _ => ?_)
  refine s0_411 ?_
  refine s0_413 ?_
  refine s0_414 ?_
  refine s0_415 rfl (own_r73 a b c pd w) rfl ?_
  refine s0_418 ?_
  refine s0_420c (fun h => absurd rfl h) (fun _ => ?_)
  refine s0_424 ?_
  refine s0_425 ?_
  exact s0_429 rfl
theorem own_01 {P P' : Prop} {t : Int32} (h : P ∧ t = 1 ∨ P' ∧ t = 0) : t = 0 ∨ t = 1 := by rcases h with ⟨-, h⟩ | ⟨-, h⟩; exact Or.inr h; exact Or.inl h
set_option maxHeartbeats 4000000 in
theorem own_all (a b c pd : Int32) (w : Int64) (flags fa fb fc lf : Int32) (k1 : fa = 0 ∨ fa = 1) (k2 : fb = 0 ∨ fb = 1) (k3 : fc = 0 ∨ fc = 1) (k4 : lf = 0 ∨ lf = 1) :
    W0 room_1 57 [.val (.int a), .val (.int b), .val (.int c), .val (.int pd), .val (.long w), .second, .val (.int flags), .val (.int fa), .val (.int fb), .val (.int fc), .val (.int lf), .unset, .unset, .unset, .unset, .unset, .unset, .unset, .unset, .unset, .unset, .unset, .unset, .unset, .unset, .unset] [] [] (fun r _ => r = some (.int 1)) := by
  rcases k4 with rfl | rfl <;> rcases k1 with rfl | rfl <;> rcases k2 with rfl | rfl <;> rcases k3 with rfl | rfl
  · exact own_c0000 a b c pd w flags
  · by_cases hc : w < c.toInt64 - pd.toInt64
    · exact own_c000d a b c pd w flags hc
    · exact own_c000k a b c pd w flags hc
  · by_cases hb : w < b.toInt64 - pd.toInt64
    · exact own_c00d0 a b c pd w flags hb
    · exact own_c00k0 a b c pd w flags hb
  · by_cases hb : w < b.toInt64 - pd.toInt64
    · by_cases hc : w < c.toInt64 - pd.toInt64
      · exact own_c00dd a b c pd w flags hb hc
      · exact own_c00dk a b c pd w flags hb hc
    · by_cases hc : w < c.toInt64 - pd.toInt64
      · exact own_c00kd a b c pd w flags hb hc
      · exact own_c00kk a b c pd w flags hb hc
  · by_cases ha : w < a.toInt64 - pd.toInt64
    · exact own_c0d00 a b c pd w flags ha
    · exact own_c0k00 a b c pd w flags ha
  · by_cases ha : w < a.toInt64 - pd.toInt64
    · by_cases hc : w < c.toInt64 - pd.toInt64
      · exact own_c0d0d a b c pd w flags ha hc
      · exact own_c0d0k a b c pd w flags ha hc
    · by_cases hc : w < c.toInt64 - pd.toInt64
      · exact own_c0k0d a b c pd w flags ha hc
      · exact own_c0k0k a b c pd w flags ha hc
  · by_cases ha : w < a.toInt64 - pd.toInt64
    · by_cases hb : w < b.toInt64 - pd.toInt64
      · exact own_c0dd0 a b c pd w flags ha hb
      · exact own_c0dk0 a b c pd w flags ha hb
    · by_cases hb : w < b.toInt64 - pd.toInt64
      · exact own_c0kd0 a b c pd w flags ha hb
      · exact own_c0kk0 a b c pd w flags ha hb
  · by_cases ha : w < a.toInt64 - pd.toInt64
    · by_cases hb : w < b.toInt64 - pd.toInt64
      · by_cases hc : w < c.toInt64 - pd.toInt64
        · exact own_c0ddd a b c pd w flags ha hb hc
        · exact own_c0ddk a b c pd w flags ha hb hc
      · by_cases hc : w < c.toInt64 - pd.toInt64
        · exact own_c0dkd a b c pd w flags ha hb hc
        · exact own_c0dkk a b c pd w flags ha hb hc
    · by_cases hb : w < b.toInt64 - pd.toInt64
      · by_cases hc : w < c.toInt64 - pd.toInt64
        · exact own_c0kdd a b c pd w flags ha hb hc
        · exact own_c0kdk a b c pd w flags ha hb hc
      · by_cases hc : w < c.toInt64 - pd.toInt64
        · exact own_c0kkd a b c pd w flags ha hb hc
        · exact own_c0kkk a b c pd w flags ha hb hc
  · exact own_c1000 a b c pd w flags
  · by_cases hc : w < c.toInt64 - pd.toInt64
    · exact own_c100d a b c pd w flags hc
    · exact own_c100k a b c pd w flags hc
  · by_cases hb : w < b.toInt64 - pd.toInt64
    · exact own_c10d0 a b c pd w flags hb
    · exact own_c10k0 a b c pd w flags hb
  · by_cases hb : w < b.toInt64 - pd.toInt64
    · by_cases hc : w < c.toInt64 - pd.toInt64
      · exact own_c10dd a b c pd w flags hb hc
      · exact own_c10dk a b c pd w flags hb hc
    · by_cases hc : w < c.toInt64 - pd.toInt64
      · exact own_c10kd a b c pd w flags hb hc
      · exact own_c10kk a b c pd w flags hb hc
  · by_cases ha : w < a.toInt64 - pd.toInt64
    · exact own_c1d00 a b c pd w flags ha
    · exact own_c1k00 a b c pd w flags ha
  · by_cases ha : w < a.toInt64 - pd.toInt64
    · by_cases hc : w < c.toInt64 - pd.toInt64
      · exact own_c1d0d a b c pd w flags ha hc
      · exact own_c1d0k a b c pd w flags ha hc
    · by_cases hc : w < c.toInt64 - pd.toInt64
      · exact own_c1k0d a b c pd w flags ha hc
      · exact own_c1k0k a b c pd w flags ha hc
  · by_cases ha : w < a.toInt64 - pd.toInt64
    · by_cases hb : w < b.toInt64 - pd.toInt64
      · exact own_c1dd0 a b c pd w flags ha hb
      · exact own_c1dk0 a b c pd w flags ha hb
    · by_cases hb : w < b.toInt64 - pd.toInt64
      · exact own_c1kd0 a b c pd w flags ha hb
      · exact own_c1kk0 a b c pd w flags ha hb
  · by_cases ha : w < a.toInt64 - pd.toInt64
    · by_cases hb : w < b.toInt64 - pd.toInt64
      · by_cases hc : w < c.toInt64 - pd.toInt64
        · exact own_c1ddd a b c pd w flags ha hb hc
        · exact own_c1ddk a b c pd w flags ha hb hc
      · by_cases hc : w < c.toInt64 - pd.toInt64
        · exact own_c1dkd a b c pd w flags ha hb hc
        · exact own_c1dkk a b c pd w flags ha hb hc
    · by_cases hb : w < b.toInt64 - pd.toInt64
      · by_cases hc : w < c.toInt64 - pd.toInt64
        · exact own_c1kdd a b c pd w flags ha hb hc
        · exact own_c1kdk a b c pd w flags ha hb hc
      · by_cases hc : w < c.toInt64 - pd.toInt64
        · exact own_c1kkd a b c pd w flags ha hb hc
        · exact own_c1kkk a b c pd w flags ha hb hc
set_option maxHeartbeats 4000000 in
theorem law_ok (a b c pd : Int32) (w : Int64) (flags : Int32) : M0 room_1 [.int a, .int b, .int c, .int pd, .long w, .int flags] [] (fun r _ => r = some (.int 1)) := by
  refine e0 ?_
  refine s0_0 ?_
  refine s0_2 ?_
  refine s0_3 ?_
  refine b0_4 (fun fa ha => ?_)
  refine s0_12 rfl ?_
  refine s0_14 ?_
  refine s0_16 ?_
  refine s0_17 ?_
  refine b0_18 (fun fb hb => ?_)
  refine s0_26 rfl ?_
  refine s0_28 ?_
  refine s0_30 ?_
  refine s0_31 ?_
  refine b0_32 (fun fc hc => ?_)
  refine s0_40 rfl ?_
  refine s0_42 ?_
  refine s0_44 ?_
  refine s0_46 ?_
  refine b0_47 (fun lf hl => ?_)
  refine s0_55 rfl ?_
  exact own_all a b c pd w flags fa fb fc lf (own_01 ha) (own_01 hb) (own_01 hc) (own_01 hl)
set_option maxRecDepth 65536 in
set_option maxHeartbeats 4000000 in
theorem comes_1 {Post : Tables → Env → Array Value → State → Outcome → State → Prop} (hpost : ∀ tb e args s v u, (limb_1_1.after args s (.returned v) u = true ∧ limb_1_2.after args s (.returned v) u = true ∧ True) → FrameEnd s (.returned v) u (Jvm.fieldLocs frame_1_writes args s ++ Jvm.arrayLocs frame_1_arrays args s ++ Jvm.staticLocs frame_1_statics s) 32 192 → Post tb e args s (.returned v) u) :
    ArmFor flags0 classFile x code maxLocals ret World_1 tables_1 room_1 Calls_1 rest_1 Pre_1 Post := by
  intro l hfl _ _ p e ha hc hk s m args below hf hA hF happ hP
  obtain ⟨hcalls, hrest, hpre⟩ := hP
  obtain ⟨-, -, -, hnamed, -, -, -, hat⟩ := (Spec.applies_iff hf).mp happ
  obtain ⟨hg, hn⟩ := and_e (Cond.before_iff.mp (show (Jvm.Cond.and given_1 narrow_1).before args s = true from hpre))
  obtain ⟨hg0, hg⟩ := and_e hg
  obtain ⟨hk0, hg⟩ := and_e hg
  obtain ⟨hk1, hg⟩ := and_e hg
  obtain ⟨hk2, hg⟩ := and_e hg
  obtain ⟨hk3, hg⟩ := and_e hg
  obtain ⟨hk4, hg⟩ := and_e hg
  have hk5 := hg
  obtain ⟨w0, w1, w2, w3, w4, w5, rfl⟩ : ∃ w0 w1 w2 w3 w4 w5 : Value, args = #[w0, w1, w2, w3, w4, w5] := by
    have hs : args.size = 6 := by simpa [Cond.value, given_1] using hg0
    obtain ⟨L⟩ := args
    match L, hs with
    | [w0, w1, w2, w3, w4, w5], _ => exact ⟨w0, w1, w2, w3, w4, w5, rfl⟩
  have hw := fun d (hd : d ∈ tables_1) => atoms_spec (ws := Jvm.Cond.code x code maxLocals ret :: tables_1) hat d (List.mem_cons_of_mem _ hd)
  obtain ⟨i0, e0⟩ := is_v hk0
  obtain rfl : w0 = (.int i0) := Option.some.inj e0
  obtain ⟨i1, e1⟩ := is_v hk1
  obtain rfl : w1 = (.int i1) := Option.some.inj e1
  obtain ⟨i2, e2⟩ := is_v hk2
  obtain rfl : w2 = (.int i2) := Option.some.inj e2
  obtain ⟨i3, e3⟩ := is_v hk3
  obtain rfl : w3 = (.int i3) := Option.some.inj e3
  obtain ⟨i4, e4⟩ := isL_v hk4
  obtain rfl : w4 = (.long i4) := Option.some.inj e4
  obtain ⟨i5, e5⟩ := is_v hk5
  obtain rfl : w5 = (.int i5) := Option.some.inj e5
  obtain ⟨n, o, h1, h2, h3, _, L, rfl, ⟨v', H', rfl, hR, rfl, N⟩, hq⟩ := law_ok i0 i1 i2 i3 i4 i5 s _ hw l s.heap tables_1 (Rel.start s KT) p e ha hc hk s m _ below hf ((Spec.applies_iff_loose hf).mp happ).1 ⟨rfl, State.Warmed39.refl s, rfl⟩ trivial
  refine ⟨n, _, h1, h2, h3, hpost _ _ _ _ _ _ ⟨Cond.after_iff.mpr rfl, Cond.after_iff.mpr (eq_i res_at (Term.int_eval (1)) rfl), trivial⟩ ⟨hq.1, hq.2.1, (hq.2.2.sift fun y hy => Or.inr (N y hy)).mono (by decide) (by decide)⟩⟩
theorem main_1_1 : Claimed_1_1 := comes_1 fun _ _ _ _ _ _ h hF => ⟨h.1, hF⟩
theorem main_1_2 : Claimed_1_2 := comes_1 fun _ _ _ _ _ _ h hF => ⟨h.2.1, hF⟩
end Jvm.Pilot.@@N@@
namespace Jvm.Pilot.@@N@@
open Jvm Jvm.ClassFile Sem Op Lib Jvm.Free Jvm.Stand Jvm.Pilot.@@N@@.Jvm.D
/-! MADE BY PROGRAM (witnessworld.py) out of the Statement's table words and the real class files: 14 classes; the members and pool entries that the words name. The judged class is class 1, her method 1. -/
namespace start1
open Jvm.ClassFile
def u (s : String) : CpInfo := .utf8 (stringToUtf16 s)
/-- a pool by its gaps: so many unusable entries, then the entry; so many at the end -/
def gap : Nat → List CpInfo → List CpInfo
  | 0, r => r
  | n + 1, r => .unusable :: gap n r
def poolList (es : List (Nat × CpInfo)) (last : Nat) : List CpInfo := es.foldr (fun e r => gap e.1 (e.2 :: r)) (gap last [])
def pool (es : List (Nat × CpInfo)) (last : Nat) : Array CpInfo := ⟨poolList es last⟩
def fileOf (pool : Array CpInfo) (this : Nat) (attrs : Array Attribute := #[]) (ms : Array MethodInfo := #[]) (fl : Nat := 33) (sup : Nat := 0) (ifs : Array Nat := #[]) (fds : Array FieldInfo := #[]) : ClassFile where
  minorVersion := 0
  majorVersion := 65
  constantPool := pool
  accessFlags := fl
  thisClass := this
  superClass := sup
  interfaces := ifs
  fields := fds
  methods := ms
  attributes := attrs
def plain (name : String) (sup : Option ClassId) : Class where
  name := name
  kind := .ordinary
  loader := none
  accessFlags := 33
  super := sup
  interfaces := #[]
  cf := none
  fields := #[]
  methods := #[]
  instanceTypes := #[]
  staticTypes := #[]
  resolved := #[]
  callSites := []
  init := .initialized
  statics := none
  mirror := none

def pool0 : Array CpInfo := pool [(5, u "<init>"), (0, u "()V"), (1, .class_ 10), (1, u "java/lang/Object")] 113

def k0c0 : Code := { maxStack := 0, maxLocals := 1, code := object_method_1_code, exceptionTable := #[], attributes := #[] }
def k0m0 : Method := { name := "<init>", desc := "()V", sig := { parameters := [], returnType := none }, accessFlags := 1, code := some k0c0 }
/-- java/lang/Object -/
def k0 : Class := { plain "java/lang/Object" none with
  accessFlags := 33
  interfaces := #[]
  cf := some (fileOf pool0 8 #[] #[{ accessFlags := 1, nameIndex := 5, descriptorIndex := 6, attributes := #[] }] 33 0 #[] #[])
  fields := #[]
  methods := #[k0m0]
  instanceTypes := #[]
  staticTypes := #[]
  resolved := Array.replicate 124 none
  statics := none }

def pool1 : Array CpInfo := pool [(2, .class_ 4), (1, u "java/lang/Object"), (0, u "<init>"), (0, u "()V"), (0, .class_ 8), (0, u "com/example/occur/occur/engines/WindowValues$Heights"), (0, .methodref 7 10), (0, .nameAndType 5 11), (0, u "([I[IJ)V"), (0, .methodref 7 13), (0, .nameAndType 14 15), (0, u "setAlone"), (0, u "(I)V"), (2, .methodref 7 19), (0, .nameAndType 20 21), (0, u "addWays"), (0, u "(III)V"), (0, .methodref 7 23), (0, .nameAndType 24 25), (0, u "lift"), (0, u "(II)Z"), (0, .methodref 27 28), (0, .class_ 29), (0, .nameAndType 30 31), (0, u "com/example/occur/occur/engines/HeightsLiftPinLaw"), (0, u "fits"), (0, u "(IIJ)Z"), (2, .long 9223372036854775807), (1, .methodref 7 37), (0, .nameAndType 38 39), (0, u "deepest"), (0, u "(II)J"), (2, u "law"), (0, u "(IIIIJI)Z")] 7

def k1m0 : Method := { name := "<init>", desc := "()V", sig := { parameters := [], returnType := none }, accessFlags := 1, code := none }
def k1c1 : Code := { maxStack := 6, maxLocals := 26, code := code, exceptionTable := #[], attributes := #[] }
def k1m1 : Method := { name := "law", desc := "(IIIIJI)Z", sig := { parameters := [.int, .int, .int, .int, .long, .int], returnType := some .boolean }, accessFlags := 9, code := some k1c1 }
def k1c2 : Code := { maxStack := 4, maxLocals := 4, code := method_3_code, exceptionTable := #[], attributes := #[] }
def k1m2 : Method := { name := "fits", desc := "(IIJ)Z", sig := { parameters := [.int, .int, .long], returnType := some .boolean }, accessFlags := 10, code := some k1c2 }
/-- com/example/occur/occur/engines/HeightsLiftPinLaw -/
def k1 : Class := { plain "com/example/occur/occur/engines/HeightsLiftPinLaw" (some 0) with
  accessFlags := 49
  interfaces := #[]
  cf := some (fileOf pool1 27 #[] #[{ accessFlags := 1, nameIndex := 5, descriptorIndex := 6, attributes := #[] }, { accessFlags := 9, nameIndex := 42, descriptorIndex := 43, attributes := #[] }, { accessFlags := 10, nameIndex := 30, descriptorIndex := 31, attributes := #[] }] 49 2 #[] #[])
  fields := #[]
  methods := #[k1m0, k1m1, k1m2]
  instanceTypes := #[]
  staticTypes := #[]
  resolved := Array.replicate 51 none
  statics := none }

def pool2 : Array CpInfo := pool [(1, .methodref 2 3), (0, .class_ 4), (0, .nameAndType 5 6), (0, u "java/lang/Object"), (0, u "<init>"), (0, u "()V"), (0, .fieldref 8 9), (0, .class_ 10), (0, .nameAndType 11 12), (0, u "com/example/occur/occur/engines/WindowValues"), (0, u "frameValues"), (0, u "[J"), (0, .fieldref 8 14), (0, .nameAndType 15 16), (0, u "frameEnds"), (0, u "[I"), (0, .fieldref 8 18), (0, .nameAndType 19 16), (0, u "familySizes"), (0, .fieldref 8 21), (0, .nameAndType 22 16), (0, u "slotCounts"), (31, u "ALONE"), (0, u "I"), (2, u "([I[I)V"), (23, .class_ 83), (0, u "com/example/occur/occur/engines/WindowValues$Counts"), (0, .class_ 85), (0, u "com/example/occur/occur/engines/WindowValues$Heights")] 3

def k2c0 : Code := { maxStack := 5, maxLocals := 4, code := prog_38_method_1_code, exceptionTable := #[], attributes := #[] }
def k2m0 : Method := { name := "<init>", desc := "([I[I)V", sig := { parameters := [(.array .int), (.array .int)], returnType := none }, accessFlags := 0, code := some k2c0 }
/-- com/example/occur/occur/engines/WindowValues -/
def k2 : Class := { plain "com/example/occur/occur/engines/WindowValues" (some 0) with
  accessFlags := 1056
  interfaces := #[]
  cf := some (fileOf pool2 8 #[.nestMembers #[82, 84]] #[{ accessFlags := 0, nameIndex := 5, descriptorIndex := 58, attributes := #[] }] 1056 2 #[] #[{ accessFlags := 24, nameIndex := 54, descriptorIndex := 55, attributes := #[] }, { accessFlags := 16, nameIndex := 19, descriptorIndex := 16, attributes := #[] }, { accessFlags := 16, nameIndex := 22, descriptorIndex := 16, attributes := #[] }, { accessFlags := 2, nameIndex := 11, descriptorIndex := 12, attributes := #[] }, { accessFlags := 2, nameIndex := 15, descriptorIndex := 16, attributes := #[] }])
  fields := #[{ name := "ALONE", type := .int, accessFlags := 24, slot := 0, constantValue := 0 }, { name := "familySizes", type := (.array .int), accessFlags := 16, slot := 0, constantValue := 0 }, { name := "slotCounts", type := (.array .int), accessFlags := 16, slot := 1, constantValue := 0 }, { name := "frameValues", type := (.array .long), accessFlags := 2, slot := 2, constantValue := 0 }, { name := "frameEnds", type := (.array .int), accessFlags := 2, slot := 3, constantValue := 0 }]
  methods := #[k2m0]
  instanceTypes := #[(.array .int), (.array .int), (.array .long), (.array .int)]
  staticTypes := #[.int]
  resolved := Array.replicate 89 none
  statics := none }

def pool3 : Array CpInfo := pool [(3, .methodref 4 5), (0, .class_ 6), (0, .nameAndType 7 8), (0, u "com/example/occur/occur/engines/WindowValues"), (0, u "<init>"), (0, u "([I[I)V"), (0, .fieldref 10 11), (0, .class_ 12), (0, .nameAndType 13 14), (0, u "com/example/occur/occur/engines/WindowValues$Heights"), (0, u "window"), (0, u "J"), (0, .fieldref 10 16), (0, .nameAndType 17 18), (0, u "starts"), (0, u "[I"), (0, .fieldref 10 20), (0, .nameAndType 21 18), (0, u "slotCounts"), (0, .fieldref 10 23), (0, .nameAndType 24 25), (0, u "state"), (0, u "[J"), (0, .long 9223372036854775807), (1, .methodref 29 30), (0, .class_ 31), (0, .nameAndType 32 33), (0, u "java/util/Arrays"), (0, u "fill"), (0, u "([JJ)V"), (0, .fieldref 10 35), (0, .nameAndType 36 25), (0, u "tops"), (0, .fieldref 10 38), (0, .nameAndType 39 14), (0, u "alone"), (0, .methodref 41 42), (0, .class_ 43), (0, .nameAndType 44 45), (0, u "java/lang/Math"), (0, u "min"), (0, u "(JJ)J"), (16, u "joined"), (0, u "I"), (10, u "NO_WAY"), (1, u "([I[IJ)V"), (4, u "deepest"), (0, u "(II)J"), (0, u "setAlone"), (0, u "(I)V"), (1, u "(II)Z"), (0, u "addWays"), (0, u "(III)V"), (10, u "lift")] 6

def k3c0 : Code := { maxStack := 3, maxLocals := 7, code := prog_40_method_1_code, exceptionTable := #[], attributes := #[] }
def k3m0 : Method := { name := "<init>", desc := "([I[IJ)V", sig := { parameters := [(.array .int), (.array .int), .long], returnType := none }, accessFlags := 0, code := some k3c0 }
def k3c1 : Code := { maxStack := 3, maxLocals := 3, code := prog_40_method_2_code, exceptionTable := #[], attributes := #[] }
def k3m1 : Method := { name := "deepest", desc := "(II)J", sig := { parameters := [.int, .int], returnType := some .long }, accessFlags := 0, code := some k3c1 }
def k3c2 : Code := { maxStack := 3, maxLocals := 2, code := prog_40_method_3_code, exceptionTable := #[], attributes := #[] }
def k3m2 : Method := { name := "setAlone", desc := "(I)V", sig := { parameters := [.int], returnType := none }, accessFlags := 0, code := some k3c2 }
def k3c3 : Code := { maxStack := 7, maxLocals := 5, code := prog_40_method_5_code, exceptionTable := #[], attributes := #[] }
def k3m3 : Method := { name := "addWays", desc := "(III)V", sig := { parameters := [.int, .int, .int], returnType := none }, accessFlags := 0, code := some k3c3 }
def k3c4 : Code := { maxStack := 5, maxLocals := 5, code := prog_40_method_13_code, exceptionTable := #[], attributes := #[] }
def k3m4 : Method := { name := "lift", desc := "(II)Z", sig := { parameters := [.int, .int], returnType := some .boolean }, accessFlags := 0, code := some k3c4 }
/-- com/example/occur/occur/engines/WindowValues$Heights -/
def k3 : Class := { plain "com/example/occur/occur/engines/WindowValues$Heights" (some 2) with
  accessFlags := 32
  interfaces := #[]
  cf := some (fileOf pool3 10 #[.nestHost 4] #[{ accessFlags := 0, nameIndex := 7, descriptorIndex := 76, attributes := #[] }, { accessFlags := 0, nameIndex := 81, descriptorIndex := 82, attributes := #[] }, { accessFlags := 0, nameIndex := 83, descriptorIndex := 84, attributes := #[] }, { accessFlags := 0, nameIndex := 87, descriptorIndex := 88, attributes := #[] }, { accessFlags := 0, nameIndex := 99, descriptorIndex := 86, attributes := #[] }] 32 4 #[] #[{ accessFlags := 26, nameIndex := 74, descriptorIndex := 14, attributes := #[] }, { accessFlags := 18, nameIndex := 13, descriptorIndex := 14, attributes := #[] }, { accessFlags := 18, nameIndex := 17, descriptorIndex := 18, attributes := #[] }, { accessFlags := 18, nameIndex := 24, descriptorIndex := 25, attributes := #[] }, { accessFlags := 18, nameIndex := 36, descriptorIndex := 25, attributes := #[] }, { accessFlags := 2, nameIndex := 39, descriptorIndex := 14, attributes := #[] }, { accessFlags := 2, nameIndex := 62, descriptorIndex := 63, attributes := #[] }])
  fields := #[{ name := "NO_WAY", type := .long, accessFlags := 26, slot := 0, constantValue := 0 }, { name := "window", type := .long, accessFlags := 18, slot := 4, constantValue := 0 }, { name := "starts", type := (.array .int), accessFlags := 18, slot := 5, constantValue := 0 }, { name := "state", type := (.array .long), accessFlags := 18, slot := 6, constantValue := 0 }, { name := "tops", type := (.array .long), accessFlags := 18, slot := 7, constantValue := 0 }, { name := "alone", type := .long, accessFlags := 2, slot := 8, constantValue := 0 }, { name := "joined", type := .int, accessFlags := 2, slot := 9, constantValue := 0 }]
  methods := #[k3m0, k3m1, k3m2, k3m3, k3m4]
  instanceTypes := #[(.array .int), (.array .int), (.array .long), (.array .int), .long, (.array .int), (.array .long), (.array .long), .long, .int]
  staticTypes := #[.long]
  resolved := Array.replicate 106 none
  statics := none }

def pool4 : Array CpInfo := pool [(2, .class_ 4), (1, u "java/lang/Object"), (0, u "<init>"), (0, u "()V"), (7, .class_ 16), (1, u "java/util/Arrays"), (57, .class_ 76), (1, u "java/util/Arrays$NaturalOrder"), (36, .class_ 115), (1, u "java/util/Arrays$LegacyMergeSort"), (1, u "Z"), (257, .class_ 376), (0, u "java/util/Arrays$ArrayList"), (68, u "$assertionsDisabled"), (269, u "MIN_ARRAY_SORT_GRAN"), (0, u "I"), (2, u "INSERTIONSORT_THRESHOLD"), (120, u "fill"), (0, u "([JJ)V"), (133, .class_ 976), (0, u "java/util/Arrays$ArrayItr")] 52

def k4m0 : Method := { name := "<init>", desc := "()V", sig := { parameters := [], returnType := none }, accessFlags := 2, code := none }
def k4c1 : Code := { maxStack := 4, maxLocals := 5, code := jdk_65_method_101_code, exceptionTable := #[], attributes := #[] }
def k4m1 : Method := { name := "fill", desc := "([JJ)V", sig := { parameters := [(.array .long), .long], returnType := none }, accessFlags := 9, code := some k4c1 }
/-- java/util/Arrays -/
def k4 : Class := { plain "java/util/Arrays" (some 0) with
  accessFlags := 49
  interfaces := #[]
  cf := some (fileOf pool4 14 #[.nestMembers #[975, 375, 113, 74]] #[{ accessFlags := 2, nameIndex := 5, descriptorIndex := 6, attributes := #[] }, { accessFlags := 9, nameIndex := 840, descriptorIndex := 841, attributes := #[] }] 49 2 #[] #[{ accessFlags := 26, nameIndex := 715, descriptorIndex := 716, attributes := #[] }, { accessFlags := 26, nameIndex := 719, descriptorIndex := 716, attributes := #[] }, { accessFlags := 4120, nameIndex := 445, descriptorIndex := 117, attributes := #[] }])
  fields := #[{ name := "MIN_ARRAY_SORT_GRAN", type := .int, accessFlags := 26, slot := 0, constantValue := 0 }, { name := "INSERTIONSORT_THRESHOLD", type := .int, accessFlags := 26, slot := 1, constantValue := 0 }, { name := "$assertionsDisabled", type := .boolean, accessFlags := 4120, slot := 2, constantValue := 0 }]
  methods := #[k4m0, k4m1]
  instanceTypes := #[]
  staticTypes := #[.int, .int, .boolean]
  resolved := Array.replicate 1029 none
  statics := none }

def pool5 : Array CpInfo := pool [(1, .class_ 2), (0, u "java/lang/Math"), (1, .class_ 6), (1, u "java/lang/Object"), (0, u "<init>"), (0, u "()V"), (89, .class_ 100), (1, u "java/lang/Math$RandomNumberGeneratorHolder"), (20, u "(JJ)J"), (50, u "negativeZeroFloatBits"), (0, u "J"), (2, u "negativeZeroDoubleBits"), (24, u "min"), (43, u "$assertionsDisabled"), (0, u "Z"), (91, u "twoToTheDoubleScaleDown"), (0, u "D"), (4, u "twoToTheDoubleScaleUp"), (9, u "E"), (3, u "PI"), (2, u "TAU"), (2, u "DEGREES_TO_RADIANS"), (0, u "RADIANS_TO_DEGREES")] 94

def k5m0 : Method := { name := "<init>", desc := "()V", sig := { parameters := [], returnType := none }, accessFlags := 2, code := none }
def k5c1 : Code := { maxStack := 4, maxLocals := 4, code := jdk_29_method_70_code, exceptionTable := #[], attributes := #[] }
def k5m1 : Method := { name := "min", desc := "(JJ)J", sig := { parameters := [.long, .long], returnType := some .long }, accessFlags := 9, code := some k5c1 }
/-- java/lang/Math -/
def k5 : Class := { plain "java/lang/Math" (some 0) with
  accessFlags := 49
  interfaces := #[]
  cf := some (fileOf pool5 1 #[.nestMembers #[98]] #[{ accessFlags := 2, nameIndex := 7, descriptorIndex := 8, attributes := #[] }, { accessFlags := 9, nameIndex := 201, descriptorIndex := 121, attributes := #[] }] 49 4 #[] #[{ accessFlags := 25, nameIndex := 354, descriptorIndex := 339, attributes := #[] }, { accessFlags := 25, nameIndex := 358, descriptorIndex := 339, attributes := #[] }, { accessFlags := 25, nameIndex := 361, descriptorIndex := 339, attributes := #[] }, { accessFlags := 26, nameIndex := 364, descriptorIndex := 339, attributes := #[] }, { accessFlags := 26, nameIndex := 365, descriptorIndex := 339, attributes := #[] }, { accessFlags := 26, nameIndex := 172, descriptorIndex := 173, attributes := #[] }, { accessFlags := 26, nameIndex := 176, descriptorIndex := 173, attributes := #[] }, { accessFlags := 8, nameIndex := 344, descriptorIndex := 339, attributes := #[] }, { accessFlags := 8, nameIndex := 338, descriptorIndex := 339, attributes := #[] }, { accessFlags := 4120, nameIndex := 245, descriptorIndex := 246, attributes := #[] }])
  fields := #[{ name := "E", type := .double, accessFlags := 25, slot := 0, constantValue := 0 }, { name := "PI", type := .double, accessFlags := 25, slot := 1, constantValue := 0 }, { name := "TAU", type := .double, accessFlags := 25, slot := 2, constantValue := 0 }, { name := "DEGREES_TO_RADIANS", type := .double, accessFlags := 26, slot := 3, constantValue := 0 }, { name := "RADIANS_TO_DEGREES", type := .double, accessFlags := 26, slot := 4, constantValue := 0 }, { name := "negativeZeroFloatBits", type := .long, accessFlags := 26, slot := 5, constantValue := 0 }, { name := "negativeZeroDoubleBits", type := .long, accessFlags := 26, slot := 6, constantValue := 0 }, { name := "twoToTheDoubleScaleUp", type := .double, accessFlags := 8, slot := 7, constantValue := 0 }, { name := "twoToTheDoubleScaleDown", type := .double, accessFlags := 8, slot := 8, constantValue := 0 }, { name := "$assertionsDisabled", type := .boolean, accessFlags := 4120, slot := 9, constantValue := 0 }]
  methods := #[k5m0, k5m1]
  instanceTypes := #[]
  staticTypes := #[.double, .double, .double, .double, .double, .long, .long, .double, .double, .boolean]
  resolved := Array.replicate 460 none
  statics := none }

def pool6 : Array CpInfo := pool [(1, u "java/lang/Cloneable"), (0, .class_ 1), (0, u "java/lang/Object"), (0, .class_ 3)] 3

/-- java/lang/Cloneable -/
def k6 : Class := { plain "java/lang/Cloneable" (some 0) with
  accessFlags := 1537
  interfaces := #[]
  cf := some (fileOf pool6 2 #[] #[] 1537 4 #[] #[])
  fields := #[]
  methods := #[]
  instanceTypes := #[]
  staticTypes := #[]
  resolved := Array.replicate 8 none
  statics := none }

def pool7 : Array CpInfo := pool [(1, u "java/io/Serializable"), (0, .class_ 1), (0, u "java/lang/Object"), (0, .class_ 3)] 3

/-- java/io/Serializable -/
def k7 : Class := { plain "java/io/Serializable" (some 0) with
  accessFlags := 1537
  interfaces := #[]
  cf := some (fileOf pool7 2 #[] #[] 1537 4 #[] #[])
  fields := #[]
  methods := #[]
  instanceTypes := #[]
  staticTypes := #[]
  resolved := Array.replicate 8 none
  statics := none }

/-- the primitive byte -/
def k8 : Class := { plain "byte" none with kind := .primitive 'B', accessFlags := 0x411 }
/-- [B -/
def k9 : Class := { plain "[B" (some 0) with kind := .array 8 .byte, interfaces := #[6, 7], accessFlags := 1041 }

/-- the primitive int -/
def k10 : Class := { plain "int" none with kind := .primitive 'I', accessFlags := 0x411 }
/-- [I -/
def k11 : Class := { plain "[I" (some 0) with kind := .array 10 .int, interfaces := #[6, 7], accessFlags := 1041 }

/-- the primitive long -/
def k12 : Class := { plain "long" none with kind := .primitive 'J', accessFlags := 0x411 }
/-- [J -/
def k13 : Class := { plain "[J" (some 0) with kind := .array 12 .long, interfaces := #[6, 7], accessFlags := 1041 }

def heap : Heap := #[]
def classes : Array Class := #[k0, k1, k2, k3, k4, k5, k6, k7, k8, k9, k10, k11, k12, k13]
def interned : List (Array UInt16 × Addr) := []
def slotsUsed : Nat := 0
def theMethod : MethodId := ⟨1, 1⟩
def args0 : Array Value := #[.int 5, .int 3, .int 2, .int 1, .long 9, .int 7]
def aboutOver (below : List Frame) : State where
  vm := { classes := classes, interned := interned.toArray }
  heap := heap
  slotsUsed := slotsUsed
  threads := #[{ frames := .invoking theMethod args0 :: below }]
def below0 : List Frame := [.native { method := ⟨0, 0⟩, args := #[] }]
def about1 : State := aboutOver below0
def p0 : Program := .bare "" "" ""
def e0 : Env := launch0.env 0 0 0
theorem w_frames : about1.frames = Frame.invoking theMethod args0 :: below0 := rfl
set_option maxRecDepth 65536 in
theorem w_args : argsFit about1.vm theMethod args0 = true := by decide +kernel
set_option maxRecDepth 65536 in
theorem w_heap : heapFits about1 = true := by decide +kernel
set_option maxRecDepth 65536 in
theorem w_runnable : about1.curStatus? = some .runnable := by decide +kernel
set_option maxRecDepth 65536 in
theorem w_alone : about1.alone = true := by decide +kernel
set_option maxRecDepth 65536 in
theorem w_named : about1.methodNamed? x = some theMethod := by decide +kernel
set_option maxRecDepth 65536 in
theorem w_hears : about1.hears theMethod below0 = true := by decide +kernel
set_option maxRecDepth 65536 in
theorem w_ripe : about1.ripe theMethod args0 below0 = true := by decide +kernel
theorem w_running : about1.status = .running := rfl
set_option maxRecDepth 65536 in
theorem w_room : about1.hasRoom e0.platform room_1 = true :=
  launch0.hasRoom_least _ room_1 (by decide +kernel) (by decide +kernel) (by decide +kernel) (by decide +kernel) (by decide +kernel) (by decide +kernel)
theorem allAtoms_all (ts : List Jvm.Cond) (a : Array Jvm.Value) (st : Jvm.State) : (allAtoms ts).before a st = ts.all (fun c => c.before a st) := by
  induction ts with
  | nil => rfl
  | cons c t ih =>
    show (Jvm.Cond.and c (allAtoms t)).before a st = _
    rw [Jvm.Cond.before_and, ih, List.all_cons]
def words1 : List Jvm.Cond := Jvm.Cond.code x code maxLocals ret :: tables_1
/-- a 'code' word, met by the world's own term for the bytes: nothing is compared byte by byte -/
theorem code_word {y : MethodName} {bytes : ByteArray} {mx : Nat} {rt : Option FieldType} {a : Array Value} {s : State} {m : MethodId} {meth : Method} {c : Code} (h1 : s.methodNamed? y = some m) (h2 : s.vm.method? m = some meth) (h3 : meth.code = some c) (h4 : c.code = bytes)
    (h5 : (c.maxLocals == mx && c.exceptionTable.isEmpty && decide (c.maxStack ≤ mostOperands) && decide (meth.sig.returnType = rt) && !meth.locks && decide (parseMethodDescriptor y.desc = some meth.sig)) = true) : (Jvm.Cond.code y bytes mx rt).before a s = true := by
  simp only [Bool.and_eq_true, beq_iff_eq, Bool.not_eq_true', decide_eq_true_eq] at h5
  obtain ⟨⟨⟨⟨⟨g1, g2⟩, g3⟩, g4⟩, g5⟩, g6⟩ := h5
  simp [Cond.before, Cond.holds, Cond.value, h1, h2, h3, h4, g1, g2, g3, g4, g5, g6]
def isCode : Jvm.Cond → Bool
  | .code _ _ _ _ => true
  | _ => false
theorem all_split {L : List Jvm.Cond} {P : Jvm.Cond → Bool} (h1 : L.all (fun c => isCode c || P c) = true) (h2 : ∀ c ∈ L.filter isCode, P c = true) : L.all P = true := by
  refine List.all_eq_true.mpr fun c hc => ?_
  have h := List.all_eq_true.mp h1 c hc
  rcases Bool.eq_false_or_eq_true (isCode c) with hi | hi
  · exact h2 c (List.mem_filter.mpr ⟨hc, hi⟩)
  · simpa [hi] using h
set_option maxRecDepth 65536 in
theorem w_c0 : (Jvm.Cond.code x code maxLocals ret).before args0 about1 = true := code_word (m := ⟨1, 1⟩) (meth := k1m1) (c := k1c1) (by decide +kernel) rfl rfl rfl (by decide +kernel)
set_option maxRecDepth 65536 in
theorem w_c1 : (Jvm.Cond.code ({ cls := "com/example/occur/occur/engines/WindowValues$Heights", name := "<init>", desc := "([I[IJ)V" } : Jvm.MethodName) prog_40_method_1_code (7 : Nat) (Option.none : Option Jvm.ClassFile.FieldType)).before args0 about1 = true := code_word (m := ⟨3, 0⟩) (meth := k3m0) (c := k3c0) (by decide +kernel) rfl rfl rfl (by decide +kernel)
set_option maxRecDepth 65536 in
theorem w_c2 : (Jvm.Cond.code ({ cls := "com/example/occur/occur/engines/WindowValues", name := "<init>", desc := "([I[I)V" } : Jvm.MethodName) prog_38_method_1_code (4 : Nat) (Option.none : Option Jvm.ClassFile.FieldType)).before args0 about1 = true := code_word (m := ⟨2, 0⟩) (meth := k2m0) (c := k2c0) (by decide +kernel) rfl rfl rfl (by decide +kernel)
set_option maxRecDepth 65536 in
theorem w_c3 : (Jvm.Cond.code ({ cls := "java/lang/Object", name := "<init>", desc := "()V" } : Jvm.MethodName) object_method_1_code (1 : Nat) (Option.none : Option Jvm.ClassFile.FieldType)).before args0 about1 = true := code_word (m := ⟨0, 0⟩) (meth := k0m0) (c := k0c0) (by decide +kernel) rfl rfl rfl (by decide +kernel)
set_option maxRecDepth 65536 in
theorem w_c4 : (Jvm.Cond.code ({ cls := "java/util/Arrays", name := "fill", desc := "([JJ)V" } : Jvm.MethodName) jdk_65_method_101_code (5 : Nat) (Option.none : Option Jvm.ClassFile.FieldType)).before args0 about1 = true := code_word (m := ⟨4, 1⟩) (meth := k4m1) (c := k4c1) (by decide +kernel) rfl rfl rfl (by decide +kernel)
set_option maxRecDepth 65536 in
theorem w_c5 : (Jvm.Cond.code ({ cls := "com/example/occur/occur/engines/WindowValues$Heights", name := "setAlone", desc := "(I)V" } : Jvm.MethodName) prog_40_method_3_code (2 : Nat) (Option.none : Option Jvm.ClassFile.FieldType)).before args0 about1 = true := code_word (m := ⟨3, 2⟩) (meth := k3m2) (c := k3c2) (by decide +kernel) rfl rfl rfl (by decide +kernel)
set_option maxRecDepth 65536 in
theorem w_c6 : (Jvm.Cond.code ({ cls := "com/example/occur/occur/engines/WindowValues$Heights", name := "addWays", desc := "(III)V" } : Jvm.MethodName) prog_40_method_5_code (5 : Nat) (Option.none : Option Jvm.ClassFile.FieldType)).before args0 about1 = true := code_word (m := ⟨3, 3⟩) (meth := k3m3) (c := k3c3) (by decide +kernel) rfl rfl rfl (by decide +kernel)
set_option maxRecDepth 65536 in
theorem w_c7 : (Jvm.Cond.code ({ cls := "java/lang/Math", name := "min", desc := "(JJ)J" } : Jvm.MethodName) jdk_29_method_70_code (4 : Nat) (Option.some Jvm.ClassFile.FieldType.long)).before args0 about1 = true := code_word (m := ⟨5, 1⟩) (meth := k5m1) (c := k5c1) (by decide +kernel) rfl rfl rfl (by decide +kernel)
set_option maxRecDepth 65536 in
theorem w_c8 : (Jvm.Cond.code ({ cls := "com/example/occur/occur/engines/WindowValues$Heights", name := "lift", desc := "(II)Z" } : Jvm.MethodName) prog_40_method_13_code (5 : Nat) (Option.some Jvm.ClassFile.FieldType.boolean)).before args0 about1 = true := code_word (m := ⟨3, 4⟩) (meth := k3m4) (c := k3c4) (by decide +kernel) rfl rfl rfl (by decide +kernel)
set_option maxRecDepth 65536 in
theorem w_c9 : (Jvm.Cond.code ({ cls := "com/example/occur/occur/engines/HeightsLiftPinLaw", name := "fits", desc := "(IIJ)Z" } : Jvm.MethodName) method_3_code (4 : Nat) (Option.some Jvm.ClassFile.FieldType.boolean)).before args0 about1 = true := code_word (m := ⟨1, 2⟩) (meth := k1m2) (c := k1c2) (by decide +kernel) rfl rfl rfl (by decide +kernel)
set_option maxRecDepth 65536 in
theorem w_c10 : (Jvm.Cond.code ({ cls := "com/example/occur/occur/engines/WindowValues$Heights", name := "deepest", desc := "(II)J" } : Jvm.MethodName) prog_40_method_2_code (3 : Nat) (Option.some Jvm.ClassFile.FieldType.long)).before args0 about1 = true := code_word (m := ⟨3, 1⟩) (meth := k3m1) (c := k3c1) (by decide +kernel) rfl rfl rfl (by decide +kernel)
def codes1 : List Jvm.Cond := [Jvm.Cond.code x code maxLocals ret, Jvm.Cond.code ({ cls := "com/example/occur/occur/engines/WindowValues$Heights", name := "<init>", desc := "([I[IJ)V" } : Jvm.MethodName) prog_40_method_1_code (7 : Nat) (Option.none : Option Jvm.ClassFile.FieldType), Jvm.Cond.code ({ cls := "com/example/occur/occur/engines/WindowValues", name := "<init>", desc := "([I[I)V" } : Jvm.MethodName) prog_38_method_1_code (4 : Nat) (Option.none : Option Jvm.ClassFile.FieldType), Jvm.Cond.code ({ cls := "java/lang/Object", name := "<init>", desc := "()V" } : Jvm.MethodName) object_method_1_code (1 : Nat) (Option.none : Option Jvm.ClassFile.FieldType), Jvm.Cond.code ({ cls := "java/util/Arrays", name := "fill", desc := "([JJ)V" } : Jvm.MethodName) jdk_65_method_101_code (5 : Nat) (Option.none : Option Jvm.ClassFile.FieldType), Jvm.Cond.code ({ cls := "com/example/occur/occur/engines/WindowValues$Heights", name := "setAlone", desc := "(I)V" } : Jvm.MethodName) prog_40_method_3_code (2 : Nat) (Option.none : Option Jvm.ClassFile.FieldType), Jvm.Cond.code ({ cls := "com/example/occur/occur/engines/WindowValues$Heights", name := "addWays", desc := "(III)V" } : Jvm.MethodName) prog_40_method_5_code (5 : Nat) (Option.none : Option Jvm.ClassFile.FieldType), Jvm.Cond.code ({ cls := "java/lang/Math", name := "min", desc := "(JJ)J" } : Jvm.MethodName) jdk_29_method_70_code (4 : Nat) (Option.some Jvm.ClassFile.FieldType.long), Jvm.Cond.code ({ cls := "com/example/occur/occur/engines/WindowValues$Heights", name := "lift", desc := "(II)Z" } : Jvm.MethodName) prog_40_method_13_code (5 : Nat) (Option.some Jvm.ClassFile.FieldType.boolean), Jvm.Cond.code ({ cls := "com/example/occur/occur/engines/HeightsLiftPinLaw", name := "fits", desc := "(IIJ)Z" } : Jvm.MethodName) method_3_code (4 : Nat) (Option.some Jvm.ClassFile.FieldType.boolean), Jvm.Cond.code ({ cls := "com/example/occur/occur/engines/WindowValues$Heights", name := "deepest", desc := "(II)J" } : Jvm.MethodName) prog_40_method_2_code (3 : Nat) (Option.some Jvm.ClassFile.FieldType.long)]
set_option maxRecDepth 65536 in
theorem codes_eq : words1.filter isCode = codes1 := rfl
theorem w_codes : ∀ c ∈ words1.filter isCode, c.before args0 about1 = true := by
  rw [codes_eq]
  intro c hc
  simp only [codes1, List.mem_cons, List.not_mem_nil, or_false] at hc
  rcases hc with rfl | rfl | rfl | rfl | rfl | rfl | rfl | rfl | rfl | rfl | rfl
  · exact w_c0
  · exact w_c1
  · exact w_c2
  · exact w_c3
  · exact w_c4
  · exact w_c5
  · exact w_c6
  · exact w_c7
  · exact w_c8
  · exact w_c9
  · exact w_c10
set_option maxRecDepth 65536 in
theorem w_t1 : (words1.take 24).all (fun c => isCode c || c.before args0 about1) = true := by decide +kernel
set_option maxRecDepth 65536 in
theorem w_t2 : ((words1.drop 24).take 24).all (fun c => isCode c || c.before args0 about1) = true := by decide +kernel
set_option maxRecDepth 65536 in
theorem w_t3 : ((words1.drop 24).drop 24).all (fun c => isCode c || c.before args0 about1) = true := by decide +kernel
theorem w_tables : (allAtoms (Jvm.Cond.code x code maxLocals ret :: tables_1)).before args0 about1 = true := by
  rw [allAtoms_all]
  show words1.all (fun c => c.before args0 about1) = true
  refine all_split ?_ w_codes
  rw [← List.take_append_drop 24 words1, List.all_append, w_t1, ← List.take_append_drop 24 (words1.drop 24), List.all_append, w_t2, w_t3]
  rfl
set_option maxRecDepth 65536 in
theorem w_case : (Jvm.Cond.and given_1 narrow_1).before args0 about1 = true := by decide +kernel
theorem w_applies : (headSpec (Jvm.Cond.code x code maxLocals ret :: tables_1) room_1).applies x e0.platform about1 = true :=
  (Spec.applies_iff w_frames).mpr ⟨w_running, w_runnable, w_alone, w_named, w_hears, w_ripe, w_room, w_tables⟩
theorem atStart : AtStart classFile x code maxLocals ret World_1 tables_1 room_1 Calls_1 rest_1 Pre_1 launch0 p0 e0 about1 theMethod args0 below0 :=
  ⟨lists_1, trivial, launch0.admits_env _ _ _, launch0.least_env, fairChoices_fair.cas, fairChoices_fair.clock, w_frames, w_args, w_heap, w_applies, trivial, trivial, w_case⟩
end start1
theorem witness_1 : WitnessClaimed_1 := ⟨start1.p0, start1.e0, start1.about1, start1.theMethod, start1.args0, start1.below0, start1.atStart⟩
end Jvm.Pilot.@@N@@
