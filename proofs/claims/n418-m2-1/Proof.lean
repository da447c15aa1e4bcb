import JvmDerived
import JvmDerived.Pilot.@@N@@Statement
import JvmDerived.Pilot.@@N@@Code
set_option linter.unusedVariables false
set_option linter.unusedSimpArgs false
@@BLOCK:NumsL.lean.txt@@
@@BLOCK:Masks.lean.txt@@
namespace Jvm.Own
open Sem ClassFile Op Lib Jvm.Stand Jvm.Free Jvm.LawKit Jvm.RoadKit
/-! ## A program logic over an abstract heap: references count from the start's heap size. -/
def cv (k : Nat) : Value → Value
  | .ref i => .ref (k + i)
  | v => v
def cs (k : Nat) : Slot → Slot
  | .val v => .val (cv k v)
  | .unset => .unset
  | .second => .second
theorem cv_cat (k : Nat) (v : Value) : (cv k v).category = v.category := by cases v <;> rfl
theorem cv_isRef (k : Nat) (v : Value) : (cv k v).isRef = v.isRef := by cases v <;> rfl
theorem cv_fits (k : Nat) (t : FieldType) (v : Value) : fits t (cv k v) = fits t v := by cases v <;> cases t <;> rfl
theorem cv_narrow (k : Nat) (t : FieldType) (v : Value) : narrow t (cv k v) = cv k (narrow t v) := by cases v <;> cases t <;> rfl
theorem cv_default (k : Nat) (t : FieldType) : cv k (defaultValue t) = defaultValue t := by cases t <;> rfl
theorem cat_map (k : Nat) (S : List Value) : ((S.map (cv k)).map fun v => v.category) = S.map fun v => v.category := by
  rw [List.map_map]; exact List.map_congr_left fun v _ => cv_cat k v
/-- an object: the number of its class, its fields' values; or an array: its kind, its values -/
abbrev ACell := (Nat × List Value) ⊕ (FieldType × List Value)
abbrev AHeap := List ACell
/-- the classes: name, slots, fields (declaring class, name, descriptor, type) -/
abbrev KTab := List (String × Nat × List (String × String × String × FieldType))
/-- a method: name, bytes, max_locals, return type -/
abbrev Mth := MethodName × ByteArray × Nat × Option FieldType
def CellOk (Z : State) (K : KTab) (h : Heap) (a : Addr) : ACell → Prop
  | .inl (c, vs) => ∃ (C : String) (n : Nat) (fs : List (String × String × String × FieldType)), K[c]? = some (C, n, fs) ∧ vs.length = fs.length ∧ Exa Z h a C ∧ ∀ (j : Nat) (f : String × String × String × FieldType) (v : Value), fs[j]? = some f → vs[j]? = some v → Fld Z h a f.1 f.2.1 f.2.2.1 (cv Z.heap.size v)
  | .inr (ty, vs) => ∃ cell : Cell, Arr Z h a cell ty ∧ cell.slots = (vs.map (cv Z.heap.size)).toArray ∧ ∀ v ∈ vs, fits ty v = true
def Rel (Z : State) (K : KTab) (h : Heap) (H : AHeap) : Prop :=
  h.size = Z.heap.size + H.length ∧ ∀ (i : Nat) (c : ACell), H[i]? = some c → CellOk Z K h (Z.heap.size + i) c
def FOk (tb : List Cond) (C : String) (f : String × String × String × FieldType) : Prop :=
  (Cond.lays C f.1 f.2.1 f.2.2.1 ∈ tb ∨ Cond.laysFinal C f.1 f.2.1 f.2.2.1 ∈ tb) ∧ parseFieldDescriptor f.2.2.1 = some f.2.2.2
def KOk (tb : List Cond) (K : KTab) : Prop :=
  ∀ q ∈ K, Cond.instantiable q.1 q.2.1 ∈ tb ∧ (∀ f ∈ q.2.2, FOk tb q.1 f) ∧ (q.2.2.map fun f => f.2.1).Nodup
theorem KOk.nil {tb : List Cond} : KOk tb [] := fun _ h => nomatch h
theorem KOk.cons {tb : List Cond} {K : KTab} {q : String × Nat × List (String × String × String × FieldType)} (h1 : Cond.instantiable q.1 q.2.1 ∈ tb) (h2 : ∀ f ∈ q.2.2, FOk tb q.1 f) (h3 : (q.2.2.map fun f => f.2.1).Nodup) (h : KOk tb K) : KOk tb (q :: K) := fun x hx => by
  rcases List.mem_cons.mp hx with rfl | hx
  · exact ⟨h1, h2, h3⟩
  · exact h x hx
theorem fok0 {tb : List Cond} {C : String} : ∀ f ∈ ([] : List (String × String × String × FieldType)), FOk tb C f := fun _ h => nomatch h
theorem fokS {tb : List Cond} {C : String} {g : String × String × String × FieldType} {L : List (String × String × String × FieldType)} (h1 : FOk tb C g) (h2 : ∀ f ∈ L, FOk tb C f) : ∀ f ∈ g :: L, FOk tb C f := fun f hf => by
  rcases List.mem_cons.mp hf with rfl | hf
  · exact h1
  · exact h2 f hf
/-- where a walk stands -/
def Here (tb : List Cond) (K : KTab) (μ : Mth) (rm : Room) (H : AHeap) (Z : State) (a0 : Array Value) (p : Program) (l : Launch) (e : Env) (R : Room) (s : State) (m : MethodId) (args : Array Value) (below : List Frame) (meth : Method) (c : Code)
    (T : State) (locs : List Loc) (cells slots : Nat) : Prop :=
  Stand p l e R s m args below meth c T locs cells slots ∧ p.tables.exec = Jvm.exec ∧ Z.Warmed39 s.vm ∧ (∀ d ∈ tb, d.before a0 Z = true) ∧ c.code = μ.2.1 ∧ c.maxLocals = μ.2.2.1 ∧ meth.sig.returnType = μ.2.2.2 ∧ meth.name = μ.1.name ∧ meth.locks = false ∧
    s.vm.findClass μ.1.cls = some m.cls ∧ Rel Z K T.heap H ∧ Fr Z.heap.size locs ∧ rm.frames ≤ R.frames ∧ cells + rm.cells ≤ R.cells ∧ slots + rm.slots ≤ R.slots ∧ rm.locals ≤ R.locals
/-- how it ends -/
def Ends (K : KTab) (Q : Option Value → AHeap → Prop) (Z : State) (p : Program) (e : Env) (R : Room) (s : State) (below : List Frame) (T0 : State) : Prop :=
  ∃ (v : Option Value) (H' : AHeap) (T : State) (locs : List Loc) (fs : List Frame), Q v H' ∧ Steps p.tables e below T0 (T.setFrames fs) ∧ (T.setFrames fs).status = .running ∧ Ended (T.setFrames fs) below (.returned (v.map (cv Z.heap.size))) ∧
    s.WarmedH (T.setFrames fs).vm ∧ s.sameButNew ({ T.setFrames fs with vm := s.vm } : State) locs R.cells R.slots ∧ Fr Z.heap.size locs ∧ Rel Z K T.heap H'
/-- from the frame (pc, L, S) over the heap H the body returns, and Q -/
def W (tb : List Cond) (K : KTab) (μ : Mth) (rm : Room) (pc : Nat) (L : List Slot) (S : List Value) (H : AHeap) (Q : Option Value → AHeap → Prop) : Prop :=
  L.length = μ.2.2.1 → ∀ (Z : State) (a0 : Array Value) (p : Program) (l : Launch) (e : Env) (R : Room) (s : State) (m : MethodId) (args : Array Value) (below : List Frame) (meth : Method) (c : Code) (T : State) (locs : List Loc) (cells slots : Nat),
    Here tb K μ rm H Z a0 p l e R s m args below meth c T locs cells slots → Ends K Q Z p e R s below (T.setTop (mkF m pc (L.map (cs Z.heap.size)).toArray (S.map (cv Z.heap.size))))
/-- a call of μ comes back, and Q -/
def M (tb : List Cond) (K : KTab) (μ : Mth) (rm : Room) (as : List Value) (H : AHeap) (Q : Option Value → AHeap → Prop) : Prop :=
  ∀ (Z : State) (a0 : Array Value), (∀ d ∈ tb, d.before a0 Z = true) → ∀ (l : Launch) (h : Heap) (ws : List Cond), Rel Z K h H →
    MetFree l μ.1 (head1 (Cond.code μ.1 μ.2.1 μ.2.2.1 μ.2.2.2 :: ws) rm) (fun a U => a = (as.map (cv Z.heap.size)).toArray ∧ Z.Warmed39 U.vm ∧ U.heap = h) (fun _ _ _ _ _ => True)
      (fun _ U o U' => ∃ v L, o = .returned v ∧ (∃ v' H', v = v'.map (cv Z.heap.size) ∧ Rel Z K U'.heap H' ∧ Q v' H' ∧ Fr Z.heap.size L) ∧ FrameEnd U o U' L rm.cells rm.slots)
section Logic
variable {tb : List Cond} {K : KTab} {μ : Mth} {rm : Room} {pc : Nat} {L : List Slot} {S : List Value} {H : AHeap} {Q Q' : Option Value → AHeap → Prop}
theorem Ends.mono {Z : State} {p : Program} {e : Env} {R : Room} {s : State} {below : List Frame} {T0 : State} (h : Ends K Q Z p e R s below T0) (hq : ∀ v H, Q v H → Q' v H) : Ends K Q' Z p e R s below T0 := by
  obtain ⟨v, H', T, locs, fs, h1, r⟩ := h; exact ⟨v, H', T, locs, fs, hq _ _ h1, r⟩
theorem W.mono (h : W tb K μ rm pc L S H Q) (hq : ∀ v H, Q v H → Q' v H) : W tb K μ rm pc L S H Q' := fun hl Z a0 p l e R s m args below meth c T locs cells slots X => (h hl Z a0 p l e R s m args below meth c T locs cells slots X).mono hq
theorem M.mono {as : List Value} (h : M tb K μ rm as H Q) (hq : ∀ v H, Q v H → Q' v H) : M tb K μ rm as H Q' := fun Z a0 hw l h0 ws hr p e ha hc hk s m args below hf happ hP hK => by
  obtain ⟨n, o, h1, h2, h3, v, L, h4, ⟨v', H', h5, h6, h7, h8⟩, h9⟩ := h Z a0 hw l h0 ws hr p e ha hc hk s m args below hf happ hP hK
  exact ⟨n, o, h1, h2, h3, v, L, h4, ⟨v', H', h5, h6, hq _ _ h7, h8⟩, h9⟩
theorem Ends.steps {Z : State} {p : Program} {e : Env} {R : Room} {s : State} {below : List Frame} {T0 T1 : State} (st : ∀ target, Steps p.tables e below T1 target → Steps p.tables e below T0 target) (h : Ends K Q Z p e R s below T1) : Ends K Q Z p e R s below T0 := by
  obtain ⟨v, H', T, locs, fs, h1, h2, r⟩ := h; exact ⟨v, H', T, locs, fs, h1, st _ h2, r⟩
/-- a step that moves the frame alone -/
theorem W.pure {pc' : Nat} {L' : List Slot} {S' : List Value} (hl : L'.length = L.length)
    (st : ∀ (k : Nat) (p : Program) (e : Env) (m : MethodId) (below : List Frame) (c : Code) (T : State), At T m c below → p.tables.exec = Jvm.exec → c.code = μ.2.1 → ∀ target, Steps p.tables e below (T.setTop (mkF m pc' (L'.map (cs k)).toArray (S'.map (cv k)))) target → Steps p.tables e below (T.setTop (mkF m pc (L.map (cs k)).toArray (S.map (cv k)))) target)
    (h : W tb K μ rm pc' L' S' H Q) : W tb K μ rm pc L S H Q := fun hL Z a0 p l e R s m args below meth c T locs cells slots X =>
  (h (hl.trans hL) Z a0 p l e R s m args below meth c T locs cells slots X).steps (st _ p e m below c T X.1.here X.2.1 X.2.2.2.2.1)
theorem get_conc {k : Nat} {i : Nat} {v : Value} (h : L[i]? = some (.val v)) : (L.map (cs k)).toArray[i]? = some (.val (cv k v)) := by
  simp [h, cs]
theorem W.iload_n {i : Fin 4} {x : Int32} (hd : decode μ.2.1 pc = .ok (.iload_n i, 1)) (hl : L[i.val]? = some (.val (.int x))) (h : W tb K μ rm (pc + 1) L (.int x :: S) H Q) : W tb K μ rm pc L S H Q :=
  W.pure rfl (fun k p e m below c T hA hx hb' t ht => XS.iloadN hA hx rfl (hb hb' hd) (get_conc hl) ht) h
theorem W.iload {i : Nat} {x : Int32} (hd : decode μ.2.1 pc = .ok (.iload i, 2)) (hl : L[i]? = some (.val (.int x))) (h : W tb K μ rm (pc + 2) L (.int x :: S) H Q) : W tb K μ rm pc L S H Q :=
  W.pure rfl (fun k p e m below c T hA hx hb' t ht => XS.iload hA hx rfl (hb hb' hd) (get_conc hl) ht) h
theorem W.lload_n {i : Fin 4} {x : Int64} (hd : decode μ.2.1 pc = .ok (.lload_n i, 1)) (hl : L[i.val]? = some (.val (.long x))) (h : W tb K μ rm (pc + 1) L (.long x :: S) H Q) : W tb K μ rm pc L S H Q :=
  W.pure rfl (fun k p e m below c T hA hx hb' t ht => XS.lloadN hA hx rfl (hb hb' hd) (get_conc hl) ht) h
theorem W.lload {i : Nat} {x : Int64} (hd : decode μ.2.1 pc = .ok (.lload i, 2)) (hl : L[i]? = some (.val (.long x))) (h : W tb K μ rm (pc + 2) L (.long x :: S) H Q) : W tb K μ rm pc L S H Q :=
  W.pure rfl (fun k p e m below c T hA hx hb' t ht => XS.lload hA hx rfl (hb hb' hd) (get_conc hl) ht) h
theorem W.aload_n {i : Fin 4} {v : Value} (hd : decode μ.2.1 pc = .ok (.aload_n i, 1)) (hl : L[i.val]? = some (.val v)) (hv : v.isRef = true) (h : W tb K μ rm (pc + 1) L (v :: S) H Q) : W tb K μ rm pc L S H Q :=
  W.pure rfl (fun k p e m below c T hA hx hb' t ht => XS.aloadN hA hx rfl (hb hb' hd) (get_conc hl) (by rw [cv_isRef]; exact hv) ht) h
theorem W.aload {i : Nat} {v : Value} (hd : decode μ.2.1 pc = .ok (.aload i, 2)) (hl : L[i]? = some (.val v)) (hv : v.isRef = true) (h : W tb K μ rm (pc + 2) L (v :: S) H Q) : W tb K μ rm pc L S H Q :=
  W.pure rfl (fun k p e m below c T hA hx hb' t ht => XS.aload hA hx rfl (hb hb' hd) (get_conc hl) (by rw [cv_isRef]; exact hv) ht) h
theorem W.iadd {x y : Int32} (hd : decode μ.2.1 pc = .ok (.iadd, 1)) (h : W tb K μ rm (pc + 1) L (.int (x + y) :: S) H Q) : W tb K μ rm pc L (.int y :: .int x :: S) H Q :=
  W.pure rfl (fun k p e m below c T hA hx hb' t ht => XS.iadd hA hx rfl (hb hb' hd) rfl ht) h
theorem W.isub {x y : Int32} (hd : decode μ.2.1 pc = .ok (.isub, 1)) (h : W tb K μ rm (pc + 1) L (.int (x - y) :: S) H Q) : W tb K μ rm pc L (.int y :: .int x :: S) H Q :=
  W.pure rfl (fun k p e m below c T hA hx hb' t ht => XS.isub hA hx rfl (hb hb' hd) rfl ht) h
theorem W.imul {x y : Int32} (hd : decode μ.2.1 pc = .ok (.imul, 1)) (h : W tb K μ rm (pc + 1) L (.int (x * y) :: S) H Q) : W tb K μ rm pc L (.int y :: .int x :: S) H Q :=
  W.pure rfl (fun k p e m below c T hA hx hb' t ht => XS.imul hA hx rfl (hb hb' hd) rfl ht) h
theorem W.idiv {x y : Int32} (hd : decode μ.2.1 pc = .ok (.idiv, 1)) (hy : y ≠ 0) (h : W tb K μ rm (pc + 1) L (.int (x / y) :: S) H Q) : W tb K μ rm pc L (.int y :: .int x :: S) H Q :=
  W.pure rfl (fun k p e m below c T hA hx hb' t ht => XS.idiv hA hx rfl (hb hb' hd) rfl hy ht) h
theorem W.irem {x y : Int32} (hd : decode μ.2.1 pc = .ok (.irem, 1)) (hy : y ≠ 0) (h : W tb K μ rm (pc + 1) L (.int (x % y) :: S) H Q) : W tb K μ rm pc L (.int y :: .int x :: S) H Q :=
  W.pure rfl (fun k p e m below c T hA hx hb' t ht => XS.irem hA hx rfl (hb hb' hd) rfl hy (by rw [irem_eq_mod x y]; exact ht)) h
theorem W.ineg {x : Int32} (hd : decode μ.2.1 pc = .ok (.ineg, 1)) (h : W tb K μ rm (pc + 1) L (.int (-x) :: S) H Q) : W tb K μ rm pc L (.int x :: S) H Q :=
  W.pure rfl (fun k p e m below c T hA hx hb' t ht => XS.ineg hA hx rfl (hb hb' hd) rfl ht) h
theorem W.iand {x y : Int32} (hd : decode μ.2.1 pc = .ok (.iand, 1)) (h : W tb K μ rm (pc + 1) L (.int (x &&& y) :: S) H Q) : W tb K μ rm pc L (.int y :: .int x :: S) H Q :=
  W.pure rfl (fun k p e m below c T hA hx hb' t ht => XS.iand hA hx rfl (hb hb' hd) rfl ht) h
theorem W.ior {x y : Int32} (hd : decode μ.2.1 pc = .ok (.ior, 1)) (h : W tb K μ rm (pc + 1) L (.int (x ||| y) :: S) H Q) : W tb K μ rm pc L (.int y :: .int x :: S) H Q :=
  W.pure rfl (fun k p e m below c T hA hx hb' t ht => XT.ior hA hx rfl (hb hb' hd) rfl ht) h
theorem W.ixor {x y : Int32} (hd : decode μ.2.1 pc = .ok (.ixor, 1)) (h : W tb K μ rm (pc + 1) L (.int (x ^^^ y) :: S) H Q) : W tb K μ rm pc L (.int y :: .int x :: S) H Q :=
  W.pure rfl (fun k p e m below c T hA hx hb' t ht => XT.ixor hA hx rfl (hb hb' hd) rfl ht) h
theorem W.ishl {x y : Int32} (hd : decode μ.2.1 pc = .ok (.ishl, 1)) (h : W tb K μ rm (pc + 1) L (.int (x <<< (y &&& 31)) :: S) H Q) : W tb K μ rm pc L (.int y :: .int x :: S) H Q :=
  W.pure rfl (fun k p e m below c T hA hx hb' t ht => XT.ishl hA hx rfl (hb hb' hd) rfl ht) h
theorem W.ishr {x y : Int32} (hd : decode μ.2.1 pc = .ok (.ishr, 1)) (h : W tb K μ rm (pc + 1) L (.int (x >>> (y &&& 31)) :: S) H Q) : W tb K μ rm pc L (.int y :: .int x :: S) H Q :=
  W.pure rfl (fun k p e m below c T hA hx hb' t ht => XT.ishr hA hx rfl (hb hb' hd) rfl ht) h
theorem W.iushr {x y : Int32} (hd : decode μ.2.1 pc = .ok (.iushr, 1)) (h : W tb K μ rm (pc + 1) L (.int (XT.ushr x y) :: S) H Q) : W tb K μ rm pc L (.int y :: .int x :: S) H Q :=
  W.pure rfl (fun k p e m below c T hA hx hb' t ht => XT.iushr hA hx rfl (hb hb' hd) rfl ht) h
theorem W.ladd {x y : Int64} (hd : decode μ.2.1 pc = .ok (.ladd, 1)) (h : W tb K μ rm (pc + 1) L (.long (x + y) :: S) H Q) : W tb K μ rm pc L (.long y :: .long x :: S) H Q :=
  W.pure rfl (fun k p e m below c T hA hx hb' t ht => XT.ladd hA hx rfl (hb hb' hd) rfl ht) h
theorem W.lsub {x y : Int64} (hd : decode μ.2.1 pc = .ok (.lsub, 1)) (h : W tb K μ rm (pc + 1) L (.long (x - y) :: S) H Q) : W tb K μ rm pc L (.long y :: .long x :: S) H Q :=
  W.pure rfl (fun k p e m below c T hA hx hb' t ht => XT.lsub hA hx rfl (hb hb' hd) rfl ht) h
theorem W.lmul {x y : Int64} (hd : decode μ.2.1 pc = .ok (.lmul, 1)) (h : W tb K μ rm (pc + 1) L (.long (x * y) :: S) H Q) : W tb K μ rm pc L (.long y :: .long x :: S) H Q :=
  W.pure rfl (fun k p e m below c T hA hx hb' t ht => XT.lmul hA hx rfl (hb hb' hd) rfl ht) h
theorem W.ldiv {x y : Int64} (hd : decode μ.2.1 pc = .ok (.ldiv, 1)) (hy : y ≠ 0) (h : W tb K μ rm (pc + 1) L (.long (x / y) :: S) H Q) : W tb K μ rm pc L (.long y :: .long x :: S) H Q :=
  W.pure rfl (fun k p e m below c T hA hx hb' t ht => XT.ldiv hA hx rfl (hb hb' hd) rfl hy ht) h
theorem W.land {x y : Int64} (hd : decode μ.2.1 pc = .ok (.land, 1)) (h : W tb K μ rm (pc + 1) L (.long (x &&& y) :: S) H Q) : W tb K μ rm pc L (.long y :: .long x :: S) H Q :=
  W.pure rfl (fun k p e m below c T hA hx hb' t ht => XT.land hA hx rfl (hb hb' hd) rfl ht) h
theorem W.lor {x y : Int64} (hd : decode μ.2.1 pc = .ok (.lor, 1)) (h : W tb K μ rm (pc + 1) L (.long (x ||| y) :: S) H Q) : W tb K μ rm pc L (.long y :: .long x :: S) H Q :=
  W.pure rfl (fun k p e m below c T hA hx hb' t ht => XT.lor hA hx rfl (hb hb' hd) rfl ht) h
theorem W.lxor {x y : Int64} (hd : decode μ.2.1 pc = .ok (.lxor, 1)) (h : W tb K μ rm (pc + 1) L (.long (x ^^^ y) :: S) H Q) : W tb K μ rm pc L (.long y :: .long x :: S) H Q :=
  W.pure rfl (fun k p e m below c T hA hx hb' t ht => XT.lxor hA hx rfl (hb hb' hd) rfl ht) h
theorem W.lshl {x : Int64} {y : Int32} (hd : decode μ.2.1 pc = .ok (.lshl, 1)) (h : W tb K μ rm (pc + 1) L (.long (x <<< (y.toInt64 &&& 63)) :: S) H Q) : W tb K μ rm pc L (.int y :: .long x :: S) H Q :=
  W.pure rfl (fun k p e m below c T hA hx hb' t ht => XT.lshl hA hx rfl (hb hb' hd) rfl ht) h
theorem W.lushr {x : Int64} {y : Int32} (hd : decode μ.2.1 pc = .ok (.lushr, 1)) (h : W tb K μ rm (pc + 1) L (.long (XT.ushrL x y) :: S) H Q) : W tb K μ rm pc L (.int y :: .long x :: S) H Q :=
  W.pure rfl (fun k p e m below c T hA hx hb' t ht => XT.lushr hA hx rfl (hb hb' hd) rfl ht) h
theorem W.lcmp {x y : Int64} (hd : decode μ.2.1 pc = .ok (.lcmp, 1)) (h : W tb K μ rm (pc + 1) L (.int (XT.cmpL x y) :: S) H Q) : W tb K μ rm pc L (.long y :: .long x :: S) H Q :=
  W.pure rfl (fun k p e m below c T hA hx hb' t ht => XT.lcmp hA hx rfl (hb hb' hd) rfl ht) h
theorem W.i2l {x : Int32} (hd : decode μ.2.1 pc = .ok (.i2l, 1)) (h : W tb K μ rm (pc + 1) L (.long x.toInt64 :: S) H Q) : W tb K μ rm pc L (.int x :: S) H Q :=
  W.pure rfl (fun k p e m below c T hA hx hb' t ht => XT.i2l hA hx rfl (hb hb' hd) rfl ht) h
theorem W.l2i {x : Int64} (hd : decode μ.2.1 pc = .ok (.l2i, 1)) (h : W tb K μ rm (pc + 1) L (.int x.toInt32 :: S) H Q) : W tb K μ rm pc L (.long x :: S) H Q :=
  W.pure rfl (fun k p e m below c T hA hx hb' t ht => XT.l2i hA hx rfl (hb hb' hd) rfl ht) h
theorem W.i2b {x : Int32} (hd : decode μ.2.1 pc = .ok (.i2b, 1)) (h : W tb K μ rm (pc + 1) L (.int x.toInt8.toInt32 :: S) H Q) : W tb K μ rm pc L (.int x :: S) H Q :=
  W.pure rfl (fun k p e m below c T hA hx hb' t ht => XT.i2b hA hx rfl (hb hb' hd) rfl ht) h
theorem W.i2c {x : Int32} (hd : decode μ.2.1 pc = .ok (.i2c, 1)) (h : W tb K μ rm (pc + 1) L (.int x.toUInt32.toUInt16.toUInt32.toInt32 :: S) H Q) : W tb K μ rm pc L (.int x :: S) H Q :=
  W.pure rfl (fun k p e m below c T hA hx hb' t ht => XT.i2c hA hx rfl (hb hb' hd) rfl ht) h
theorem W.iconst {i : Int} (hd : decode μ.2.1 pc = .ok (.iconst i, 1)) (h : W tb K μ rm (pc + 1) L (.int (Int32.ofInt i) :: S) H Q) : W tb K μ rm pc L (S) H Q :=
  W.pure rfl (fun k p e m below c T hA hx hb' t ht => XS.iconst hA hx rfl (hb hb' hd) ht) h
theorem W.bipush {i : Int} (hd : decode μ.2.1 pc = .ok (.bipush i, 2)) (h : W tb K μ rm (pc + 2) L (.int (Int8.ofInt i).toInt32 :: S) H Q) : W tb K μ rm pc L (S) H Q :=
  W.pure rfl (fun k p e m below c T hA hx hb' t ht => XS.bipush hA hx rfl (hb hb' hd) ht) h
theorem W.sipush {i : Int} (hd : decode μ.2.1 pc = .ok (.sipush i, 3)) (h : W tb K μ rm (pc + 3) L (.int (Int16.ofInt i).toInt32 :: S) H Q) : W tb K μ rm pc L (S) H Q :=
  W.pure rfl (fun k p e m below c T hA hx hb' t ht => XS.sipush hA hx rfl (hb hb' hd) ht) h
theorem W.lconst {i : Fin 2} (hd : decode μ.2.1 pc = .ok (.lconst i, 1)) (h : W tb K μ rm (pc + 1) L (.long (Int64.ofNat i) :: S) H Q) : W tb K μ rm pc L (S) H Q :=
  W.pure rfl (fun k p e m below c T hA hx hb' t ht => XT.lconst hA hx rfl (hb hb' hd) ht) h
theorem W.aconst_null  (hd : decode μ.2.1 pc = .ok (.aconst_null, 1)) (h : W tb K μ rm (pc + 1) L (.null :: S) H Q) : W tb K μ rm pc L (S) H Q :=
  W.pure rfl (fun k p e m below c T hA hx hb' t ht => XS.aconstNull hA hx rfl (hb hb' hd) ht) h
theorem W.dup {v : Value} (hd : decode μ.2.1 pc = .ok (.dup, 1)) (hc : v.category = 1) (h : W tb K μ rm (pc + 1) L (v :: v :: S) H Q) : W tb K μ rm pc L (v :: S) H Q :=
  W.pure rfl (fun k p e m below c T hA hx hb' t ht => XS.dup hA hx rfl (hb hb' hd) rfl (by rw [cv_cat]; exact hc) ht) h
theorem W.pop {v : Value} (hd : decode μ.2.1 pc = .ok (.pop, 1)) (hc : v.category = 1) (h : W tb K μ rm (pc + 1) L (S) H Q) : W tb K μ rm pc L (v :: S) H Q :=
  W.pure rfl (fun k p e m below c T hA hx hb' t ht => XT.pop hA hx rfl (hb hb' hd) rfl (by rw [cv_cat]; exact hc) ht) h
theorem W.dup_x1 {v w : Value} (hd : decode μ.2.1 pc = .ok (.dup_x1, 1)) (hc : v.category = 1) (hc' : w.category = 1) (h : W tb K μ rm (pc + 1) L (v :: w :: v :: S) H Q) : W tb K μ rm pc L (v :: w :: S) H Q :=
  W.pure rfl (fun k p e m below c T hA hx hb' t ht => XT.dupX1 hA hx rfl (hb hb' hd) rfl (by rw [cv_cat]; exact hc) (by rw [cv_cat]; exact hc') ht) h
theorem W.iconst' {i : Int} {x : Int32} (hd : decode μ.2.1 pc = .ok (.iconst i, 1)) (hx : Int32.ofInt i = x) (h : W tb K μ rm (pc + 1) L (.int x :: S) H Q) : W tb K μ rm pc L S H Q := W.iconst hd (by rw [hx]; exact h)
theorem W.bipush' {i : Int} {x : Int32} (hd : decode μ.2.1 pc = .ok (.bipush i, 2)) (hx : (Int8.ofInt i).toInt32 = x) (h : W tb K μ rm (pc + 2) L (.int x :: S) H Q) : W tb K μ rm pc L S H Q := W.bipush hd (by rw [hx]; exact h)
theorem W.sipush' {i : Int} {x : Int32} (hd : decode μ.2.1 pc = .ok (.sipush i, 3)) (hx : (Int16.ofInt i).toInt32 = x) (h : W tb K μ rm (pc + 3) L (.int x :: S) H Q) : W tb K μ rm pc L S H Q := W.sipush hd (by rw [hx]; exact h)
theorem W.lconst' {i : Fin 2} {x : Int64} (hd : decode μ.2.1 pc = .ok (.lconst i, 1)) (hx : Int64.ofNat i = x) (h : W tb K μ rm (pc + 1) L (.long x :: S) H Q) : W tb K μ rm pc L S H Q := W.lconst hd (by rw [hx]; exact h)
/-- a local of one word -/
def one : Slot → Bool
  | .unset => true
  | .val v => v.category == 1
  | .second => false
theorem cs_one {k : Nat} {o : Slot} (h : one o = true) : cs k o = .unset ∨ ∃ w, cs k o = .val w ∧ w.category = 1 := by
  cases o with
  | unset => exact Or.inl rfl
  | second => cases h
  | val v => exact Or.inr ⟨cv k v, rfl, by rw [cv_cat]; simpa [one] using h⟩
theorem set_conc {k i : Nat} {x : Slot} : (L.map (cs k)).toArray.setIfInBounds i (cs k x) = ((L.set i x).map (cs k)).toArray := by
  simp [List.map_set]
theorem sto1 {k i : Nat} {o : Slot} {v : Value} (hl : L[i]? = some o) (ho : one o = true) (hv : v.category = 1) : storeLocals (L.map (cs k)).toArray i (cv k v) = some ((L.set i (.val v)).map (cs k)).toArray := by
  rw [XS.store1 (o := cs k o) (by simp [hl]) (cs_one ho) (by rw [cv_cat]; exact hv)]
  exact congrArg some (set_conc (x := .val v))
/-- over the first half of a long -/
theorem sto1w {k i : Nat} {w v : Value} (hl : L[i]? = some (.val w)) (ho : w.category = 2) (hi : i + 1 < L.length) (hv : v.category = 1) : storeLocals (L.map (cs k)).toArray i (cv k v) = some (((L.set (i + 1) .unset).set i (.val v)).map (cs k)).toArray := by
  have h0 : i < L.length := by omega
  have e : L[i] = .val w := by rw [List.getElem?_eq_getElem h0] at hl; exact Option.some.inj hl
  simp [storeLocals, storeSelf, setAt, h0, e, cs, cv_cat, ho, hi, hv, List.map_set]
/-- over the second half of a long -/
theorem sto1s {k i : Nat} {v : Value} (hl : L[i]? = some .second) (hi : 0 < i) (hv : v.category = 1) : storeLocals (L.map (cs k)).toArray i (cv k v) = some (((L.set (i - 1) .unset).set i (.val v)).map (cs k)).toArray := by
  have h0 : i < L.length := (List.getElem?_eq_some_iff.mp hl).1
  have e : L[i] = .second := by rw [List.getElem?_eq_getElem h0] at hl; exact Option.some.inj hl
  have h1 : i - 1 < L.length := by omega
  simp [storeLocals, storeSelf, setAt, h0, h1, e, cs, cv_cat, hv, List.map_set]
/-- what a long may be stored over -/
def two : Slot → Slot → Bool
  | .second, _ => false
  | _, .val w => w.category == 1
  | _, _ => true
theorem sto2 {k i : Nat} {o o' : Slot} {x : Int64} (hl : L[i]? = some o) (hl' : L[i + 1]? = some o') (ho : two o o' = true) : storeLocals (L.map (cs k)).toArray i (.long x) = some (((L.set i (.val (.long x))).set (i + 1) .second).map (cs k)).toArray := by
  have h0 : i < L.length := (List.getElem?_eq_some_iff.mp hl).1
  have h1 : i + 1 < L.length := (List.getElem?_eq_some_iff.mp hl').1
  have e : L[i] = o := by rw [List.getElem?_eq_getElem h0] at hl; exact Option.some.inj hl
  have e' : L[i + 1] = o' := by rw [List.getElem?_eq_getElem h1] at hl'; exact Option.some.inj hl'
  have ne : ¬ (i = i + 1) := by omega
  have c2 : (Value.long x).category = 2 := rfl
  have cl : cv k (.long x) = .long x := rfl
  have sw : ∀ (l : List Slot) (u v w : Slot), ((l.set (i + 1) u).set i v).set (i + 1) w = (l.set i v).set (i + 1) w := fun l u v w => by
    rw [List.set_comm _ _ (by omega : i + 1 ≠ i), List.set_set]
  cases o with
  | second => cases ho
  | unset =>
    cases o' with
    | unset => simp [storeLocals, storeSelf, setAt, h0, h1, e, e', cs, c2, cl, List.map_set]
    | second => simp [storeLocals, storeSelf, setAt, h0, h1, e, e', cs, c2, cl, List.map_set]
    | val w' =>
      have hc : w'.category = 1 := by simpa [two] using ho
      simp [storeLocals, storeSelf, setAt, h0, h1, e, e', cs, cv_cat, hc, c2, cl, List.map_set]
  | val w =>
    by_cases hw : w.category = 2
    · simp [storeLocals, storeSelf, setAt, h0, h1, e, cs, cv_cat, hw, c2, cl, List.map_set, sw]
    · cases o' with
      | unset => simp [storeLocals, storeSelf, setAt, h0, h1, e, e', cs, cv_cat, hw, c2, cl, List.map_set]
      | second => simp [storeLocals, storeSelf, setAt, h0, h1, e, e', cs, cv_cat, hw, c2, cl, List.map_set]
      | val w' =>
        have hc : w'.category = 1 := by simpa [two] using ho
        simp [storeLocals, storeSelf, setAt, h0, h1, e, e', cs, cv_cat, hw, hc, c2, cl, List.map_set]
theorem W.istore_n {i : Fin 4} {o : Slot} {x : Int32} (hd : decode μ.2.1 pc = .ok (.istore_n i, 1)) (hl : L[i.val]? = some o) (ho : one o = true) (h : W tb K μ rm (pc + 1) (L.set i.val (.val (.int x))) S H Q) : W tb K μ rm pc L (.int x :: S) H Q :=
  W.pure (by simp) (fun k p e m below c T hA hx hb' t ht => XS.istoreN hA hx rfl (hb hb' hd) rfl (sto1 (v := .int x) hl ho rfl) ht) h
theorem W.istore_nW {i : Fin 4} {w : Value} {x : Int32} (hd : decode μ.2.1 pc = .ok (.istore_n i, 1)) (hl : L[i.val]? = some (.val w)) (ho : w.category = 2) (hi : i.val + 1 < L.length) (h : W tb K μ rm (pc + 1) ((L.set (i.val + 1) .unset).set i.val (.val (.int x))) S H Q) : W tb K μ rm pc L (.int x :: S) H Q :=
  W.pure (by simp) (fun k p e m below c T hA hx hb' t ht => XS.istoreN hA hx rfl (hb hb' hd) rfl (sto1w (v := .int x) hl ho hi rfl) ht) h
theorem W.istore_nS {i : Fin 4} {x : Int32} (hd : decode μ.2.1 pc = .ok (.istore_n i, 1)) (hl : L[i.val]? = some .second) (hi : 0 < i.val) (h : W tb K μ rm (pc + 1) ((L.set (i.val - 1) .unset).set i.val (.val (.int x))) S H Q) : W tb K μ rm pc L (.int x :: S) H Q :=
  W.pure (by simp) (fun k p e m below c T hA hx hb' t ht => XS.istoreN hA hx rfl (hb hb' hd) rfl (sto1s (v := .int x) hl hi rfl) ht) h
theorem W.istore {i : Nat} {o : Slot} {x : Int32} (hd : decode μ.2.1 pc = .ok (.istore i, 2)) (hl : L[i]? = some o) (ho : one o = true) (h : W tb K μ rm (pc + 2) (L.set i (.val (.int x))) S H Q) : W tb K μ rm pc L (.int x :: S) H Q :=
  W.pure (by simp) (fun k p e m below c T hA hx hb' t ht => XS.istore hA hx rfl (hb hb' hd) rfl (sto1 (v := .int x) hl ho rfl) ht) h
theorem W.istoreW {i : Nat} {w : Value} {x : Int32} (hd : decode μ.2.1 pc = .ok (.istore i, 2)) (hl : L[i]? = some (.val w)) (ho : w.category = 2) (hi : i + 1 < L.length) (h : W tb K μ rm (pc + 2) ((L.set (i + 1) .unset).set i (.val (.int x))) S H Q) : W tb K μ rm pc L (.int x :: S) H Q :=
  W.pure (by simp) (fun k p e m below c T hA hx hb' t ht => XS.istore hA hx rfl (hb hb' hd) rfl (sto1w (v := .int x) hl ho hi rfl) ht) h
theorem W.istoreS {i : Nat} {x : Int32} (hd : decode μ.2.1 pc = .ok (.istore i, 2)) (hl : L[i]? = some .second) (hi : 0 < i) (h : W tb K μ rm (pc + 2) ((L.set (i - 1) .unset).set i (.val (.int x))) S H Q) : W tb K μ rm pc L (.int x :: S) H Q :=
  W.pure (by simp) (fun k p e m below c T hA hx hb' t ht => XS.istore hA hx rfl (hb hb' hd) rfl (sto1s (v := .int x) hl hi rfl) ht) h
theorem W.astore_n {i : Fin 4} {o : Slot} {v : Value} (hd : decode μ.2.1 pc = .ok (.astore_n i, 1)) (hl : L[i.val]? = some o) (ho : one o = true) (hv : v.isRef = true) (h : W tb K μ rm (pc + 1) (L.set i.val (.val v)) S H Q) : W tb K μ rm pc L (v :: S) H Q :=
  W.pure (by simp) (fun k p e m below c T hA hx hb' t ht => XS.astoreN hA hx rfl (hb hb' hd) rfl (by rw [cv_isRef]; exact hv) (sto1 (v := v) hl ho (by cases v <;> first | rfl | cases hv)) ht) h
theorem W.astore {i : Nat} {o : Slot} {v : Value} (hd : decode μ.2.1 pc = .ok (.astore i, 2)) (hl : L[i]? = some o) (ho : one o = true) (hv : v.isRef = true) (h : W tb K μ rm (pc + 2) (L.set i (.val v)) S H Q) : W tb K μ rm pc L (v :: S) H Q :=
  W.pure (by simp) (fun k p e m below c T hA hx hb' t ht => XS.astore hA hx rfl (hb hb' hd) rfl (by rw [cv_isRef]; exact hv) (sto1 (v := v) hl ho (by cases v <;> first | rfl | cases hv)) ht) h
theorem W.lstore_n {i : Fin 4} {o o' : Slot} {x : Int64} (hd : decode μ.2.1 pc = .ok (.lstore_n i, 1)) (hl : L[i.val]? = some o) (hl' : L[i.val + 1]? = some o') (ho : two o o' = true) (h : W tb K μ rm (pc + 1) ((L.set i.val (.val (.long x))).set (i.val + 1) .second) S H Q) : W tb K μ rm pc L (.long x :: S) H Q :=
  W.pure (by simp) (fun k p e m below c T hA hx hb' t ht => XT.lstoreN hA hx rfl (hb hb' hd) rfl (sto2 hl hl' ho) ht) h
theorem W.lstore {i : Nat} {o o' : Slot} {x : Int64} (hd : decode μ.2.1 pc = .ok (.lstore i, 2)) (hl : L[i]? = some o) (hl' : L[i + 1]? = some o') (ho : two o o' = true) (h : W tb K μ rm (pc + 2) ((L.set i (.val (.long x))).set (i + 1) .second) S H Q) : W tb K μ rm pc L (.long x :: S) H Q :=
  W.pure (by simp) (fun k p e m below c T hA hx hb' t ht => XT.lstore hA hx rfl (hb hb' hd) rfl (sto2 hl hl' ho) ht) h
theorem W.iinc {i : Nat} {n : Int} {x y : Int32} (hd : decode μ.2.1 pc = .ok (.iinc i n, 3)) (hy : Int32.ofInt n = y) (hl : L[i]? = some (.val (.int x))) (h : W tb K μ rm (pc + 3) (L.set i (.val (.int (x + y)))) S H Q) : W tb K μ rm pc L S H Q := by
  subst hy
  exact W.pure (by simp) (fun k p e m below c T hA hx hb' t ht => XS.iinc hA hx rfl (hb hb' hd) (get_conc hl) (sto1 (v := .int (x + Int32.ofInt n)) hl rfl rfl) ht) h
theorem W.goto {o : Int} {pc' : Nat} (hd : decode μ.2.1 pc = .ok (.goto o, 3)) (ho : 0 ≤ (pc : Int) + o) (hp : ((pc : Int) + o).toNat = pc') (h : W tb K μ rm pc' L S H Q) : W tb K μ rm pc L S H Q :=
  W.pure rfl (fun k p e m below c T hA hx hb' t ht => XS.goto hA hx rfl rfl (hb hb' hd) ho hp ht) h
/-- what a comparison asks -/
def cnd : ClassFile.Cond → Int32 → Int32 → Prop
  | .eq, x, y => x = y
  | .ne, x, y => ¬ x = y
  | .lt, x, y => x < y
  | .ge, x, y => ¬ x < y
  | .gt, x, y => y < x
  | .le, x, y => ¬ y < x
def cndN : ClassFile.Cond → Int32 → Int32 → Prop
  | .eq, x, y => ¬ x = y
  | .ne, x, y => x = y
  | .lt, x, y => ¬ x < y
  | .ge, x, y => x < y
  | .gt, x, y => ¬ y < x
  | .le, x, y => y < x
theorem cndN_of (cd : ClassFile.Cond) (x y : Int32) (h : ¬ cnd cd x y) : cndN cd x y := by
  cases cd <;> first | exact h | exact Classical.not_not.mp h
theorem cnd_iff (cd : ClassFile.Cond) (x y : Int32) : if_icmp.holds cd x y = true ↔ cnd cd x y := by
  cases cd <;> simp [if_icmp.holds, cnd, Int32.not_lt]
theorem cnd_not (cd : ClassFile.Cond) (x y : Int32) : if_icmp.holds cd x y = false ↔ ¬ cnd cd x y := by
  rw [← cnd_iff]; cases if_icmp.holds cd x y <;> simp
theorem W.icmp {cd : ClassFile.Cond} {x y : Int32} {o : Int} {pc' : Nat} (hd : decode μ.2.1 pc = .ok (.if_icmp cd o, 3)) (ho : 0 ≤ (pc : Int) + o) (hp : ((pc : Int) + o).toNat = pc') (h1 : cnd cd x y → W tb K μ rm pc' L S H Q) (h2 : cndN cd x y → W tb K μ rm (pc + 3) L S H Q) : W tb K μ rm pc L (.int y :: .int x :: S) H Q := by
  cases hc : if_icmp.holds cd x y
  · exact W.pure rfl (fun k p e m below c T hA hx hb' t ht => XS.icmpNo hA hx rfl (hb hb' hd) rfl hc ht) (h2 (cndN_of cd x y ((cnd_not cd x y).mp hc)))
  · exact W.pure rfl (fun k p e m below c T hA hx hb' t ht => XS.icmpYes hA hx rfl rfl (hb hb' hd) rfl hc ho hp ht) (h1 ((cnd_iff cd x y).mp hc))
theorem W.ifc {cd : ClassFile.Cond} {x : Int32} {o : Int} {pc' : Nat} (hd : decode μ.2.1 pc = .ok (.ifCond cd o, 3)) (ho : 0 ≤ (pc : Int) + o) (hp : ((pc : Int) + o).toNat = pc') (h1 : cnd cd x 0 → W tb K μ rm pc' L S H Q) (h2 : cndN cd x 0 → W tb K μ rm (pc + 3) L S H Q) : W tb K μ rm pc L (.int x :: S) H Q := by
  cases hc : ifCond.holds cd x
  · exact W.pure rfl (fun k p e m below c T hA hx hb' t ht => XS.ifNo hA hx rfl (hb hb' hd) rfl hc ht) (h2 (cndN_of cd x 0 ((cnd_not cd x 0).mp (by rw [← if0]; exact hc))))
  · exact W.pure rfl (fun k p e m below c T hA hx hb' t ht => XS.ifYes hA hx rfl rfl (hb hb' hd) rfl hc ho hp ht) (h1 ((cnd_iff cd x 0).mp (by rw [← if0]; exact hc)))
def cndL : ClassFile.Cond → Int64 → Int64 → Prop
  | .eq, x, y => x = y
  | .ne, x, y => ¬ x = y
  | .lt, x, y => x < y
  | .ge, x, y => ¬ x < y
  | .gt, x, y => y < x
  | .le, x, y => ¬ y < x
def cndLN : ClassFile.Cond → Int64 → Int64 → Prop
  | .eq, x, y => ¬ x = y
  | .ne, x, y => x = y
  | .lt, x, y => ¬ x < y
  | .ge, x, y => x < y
  | .gt, x, y => ¬ y < x
  | .le, x, y => y < x
theorem cndLN_iff (cd : ClassFile.Cond) (x y : Int64) : cndLN cd x y ↔ ¬ cndL cd x y := by
  cases cd <;> first | exact Iff.rfl | exact Classical.not_not.symm
theorem cndN_iff (cd : ClassFile.Cond) (x y : Int32) : cndN cd x y ↔ ¬ cnd cd x y := by
  cases cd <;> first | exact Iff.rfl | exact Classical.not_not.symm
theorem cmpL_iff (cd : ClassFile.Cond) (x y : Int64) : cnd cd (XT.cmpL x y) 0 ↔ cndL cd x y := by
  have e : XT.cmpL x y = lcmpW x y := by simp [XT.cmpL, lcmpW]
  rw [e]
  cases cd
  · exact lw_eq x y
  · exact not_congr (lw_eq x y)
  · exact lw_lt x y
  · exact not_congr (lw_lt x y)
  · exact lw_gt x y
  · exact not_congr (lw_gt x y)
/-- lcmp and the branch behind it -/
theorem W.lcif {cd : ClassFile.Cond} {x y : Int64} {o : Int} {pc1 pc' : Nat} (hd1 : decode μ.2.1 pc = .ok (.lcmp, 1)) (hp1 : pc + 1 = pc1) (hd : decode μ.2.1 pc1 = .ok (.ifCond cd o, 3)) (ho : 0 ≤ (pc1 : Int) + o) (hp : ((pc1 : Int) + o).toNat = pc') (h1 : cndL cd x y → W tb K μ rm pc' L S H Q) (h2 : cndLN cd x y → W tb K μ rm (pc1 + 3) L S H Q) : W tb K μ rm pc L (.long y :: .long x :: S) H Q := by
  subst hp1
  exact W.lcmp hd1 (W.ifc hd ho hp (fun h => h1 ((cmpL_iff cd x y).mp h)) (fun h => h2 ((cndLN_iff cd x y).mpr fun q => (cndN_iff cd _ 0).mp h ((cmpL_iff cd x y).mpr q))))
theorem W.ifnullR {i : Nat} {o : Int} (hd : decode μ.2.1 pc = .ok (.ifnull o, 3)) (h : W tb K μ rm (pc + 3) L S H Q) : W tb K μ rm pc L (.ref i :: S) H Q :=
  W.pure rfl (fun k p e m below c T hA hx hb' t ht => XS.ifnullNo hA hx rfl (hb hb' hd) rfl ht) h
theorem W.ifnonnullR {i : Nat} {o : Int} {pc' : Nat} (hd : decode μ.2.1 pc = .ok (.ifnonnull o, 3)) (ho : 0 ≤ (pc : Int) + o) (hp : ((pc : Int) + o).toNat = pc') (h : W tb K μ rm pc' L S H Q) : W tb K μ rm pc L (.ref i :: S) H Q :=
  W.pure rfl (fun k p e m below c T hA hx hb' t ht => XT.ifnonnullYes hA hx rfl rfl (hb hb' hd) rfl ho hp ht) h
theorem W.lsw {d : Int} {ps : Array (Int × Int)} {len : Nat} {x : Int32} {o : Int} {pc' : Nat} (hd : decode μ.2.1 pc = .ok (.lookupswitch d ps, len)) (hs : (ps.toList.zip (ps.toList.drop 1)).all (fun (a, next) => a.1 < next.1) = true) (ho : lookupswitch.offset ps.toList d x.toInt = o) (h0 : 0 ≤ (pc : Int) + o) (hp : ((pc : Int) + o).toNat = pc')
    (h : W tb K μ rm pc' L S H Q) : W tb K μ rm pc L (.int x :: S) H Q := by
  subst hp
  refine W.pure rfl (fun k p e m below c T hA hx hb' t ht => ?_) h
  have hd' := hb hb' hd
  show Steps p.tables e below (T.setTop (mkF m pc (L.map (cs k)).toArray (.int x :: S.map (cv k)))) _
  jvm_step hA [hA.top, hx, hd', lookupswitch.wp_chain, ho, h0]
  refine ⟨?_, ht⟩
  simpa using hs
end Logic
end Jvm.Own
namespace Jvm.Own
open Sem ClassFile Op Lib Jvm.Stand Jvm.Free Jvm.LawKit Jvm.RoadKit
section Heap
variable {Z : State} {K : KTab} {h h' : Heap} {H : AHeap} {a b : Addr} {tb : List Cond} {a0 : Array Value}
theorem CellOk.ext {c : ACell} (E : Ext h h') (F : CellOk Z K h a c) : CellOk Z K h' a c := by
  cases c with
  | inl q =>
    obtain ⟨C, n, fs, h1, h2, h3, h4⟩ := F
    exact ⟨C, n, fs, h1, h2, h3.ext E, fun j f v hf hv => (h4 j f v hf hv).ext E⟩
  | inr q =>
    obtain ⟨cell, h1, h2⟩ := F
    exact ⟨cell, h1.ext E, h2⟩
theorem CellOk.other {c : ACell} {sl : Nat} {v : Value} (W : Wr h h' b sl v) (F : CellOk Z K h a c) (ne : a ≠ b) : CellOk Z K h' a c := by
  cases c with
  | inl q =>
    obtain ⟨C, n, fs, h1, h2, h3, h4⟩ := F
    exact ⟨C, n, fs, h1, h2, h3.wr W, fun j f v hf hv => (h4 j f v hf hv).other W (Or.inl ne)⟩
  | inr q =>
    obtain ⟨cell, h1, h2⟩ := F
    exact ⟨cell, h1.other W ne, h2⟩
theorem Rel.start (Z : State) (K : KTab) : Rel Z K Z.heap [] := ⟨rfl, fun i c q => by simp at q⟩
theorem Rel.push {c : ACell} {cell : Cell} (R : Rel Z K h H) (F : CellOk Z K (h.push cell) (Z.heap.size + H.length) c) : Rel Z K (h.push cell) (H ++ [c]) := by
  have E : Ext h (h.push cell) := ⟨by simp, fun x c q => by rw [Array.getElem?_push_lt (Array.getElem?_eq_some_iff.mp q).1]; exact (Array.getElem?_eq_getElem _).symm.trans q⟩
  refine ⟨by simp [R.1]; omega, fun i c' q => ?_⟩
  rcases Nat.lt_trichotomy i H.length with hi | hi | hi
  · rw [List.getElem?_append_left hi] at q
    exact (R.2 i c' q).ext E
  · subst hi
    rw [List.getElem?_append_right (Nat.le_refl _)] at q
    simp at q
    subst q
    exact F
  · rw [List.getElem?_append_right (Nat.le_of_lt hi)] at q
    rw [List.getElem?_eq_none (show 1 ≤ i - H.length from Nat.sub_pos_of_lt hi)] at q
    cases q
theorem Rel.set {c : ACell} {i sl : Nat} {v : Value} (R : Rel Z K h H) (W : Wr h h' (Z.heap.size + i) sl v) (F : CellOk Z K h' (Z.heap.size + i) c) : Rel Z K h' (H.set i c) := by
  refine ⟨by rw [W.size, List.length_set]; exact R.1, fun j c' q => ?_⟩
  by_cases e : j = i
  · subst e
    obtain ⟨hl, -⟩ := List.getElem?_eq_some_iff.mp q
    rw [List.getElem?_set_self (by simpa using hl)] at q
    cases q
    exact F
  · rw [List.getElem?_set_ne (Ne.symm e)] at q
    exact (R.2 j c' q).other W (fun q' => e (Nat.add_left_cancel q'))
theorem mem_of_get {q : String × Nat × List (String × String × String × FieldType)} {c : Nat} (hK : K[c]? = some q) : q ∈ K := List.mem_of_getElem? hK
theorem FOk.laid {C : String} {f : String × String × String × FieldType} (F : FOk tb C f) (hw : ∀ d ∈ tb, d.before a0 Z = true) : Laid Z a0 C f.1 f.2.1 f.2.2.1 := F.1.imp (hw _) (hw _)
theorem CellOk.put {c i j : Nat} {vs : List Value} {C : String} {n : Nat} {fs : List (String × String × String × FieldType)} {f : String × String × String × FieldType} {v : Value} (hKO : KOk tb K) (hw : ∀ d ∈ tb, d.before a0 Z = true) (hK : K[c]? = some (C, n, fs)) (hf : fs[j]? = some f)
    (W : Wr h h' a (RoadKit.slotOf Z f.1 f.2.1 f.2.2.1) (cv Z.heap.size v)) (F : CellOk Z K h a (.inl (c, vs))) : CellOk Z K h' a (.inl (c, vs.set j v)) := by
  obtain ⟨C', n', fs', h1, h2, h3, h4⟩ := F
  cases hK.symm.trans h1
  obtain ⟨k1, k2, k3⟩ := hKO _ (mem_of_get hK)
  refine ⟨C, n, fs, hK, by simpa using h2, h3.wr W, fun j' f' v' hf' hv' => ?_⟩
  by_cases e : j' = j
  · subst e
    cases hf.symm.trans hf'
    have hl : j' < vs.length := by rw [h2]; exact (List.getElem?_eq_some_iff.mp hf).1
    rw [List.getElem?_set_self hl] at hv'
    cases hv'
    obtain ⟨w, hw'⟩ : ∃ w, vs[j']? = some w := ⟨vs[j'], List.getElem?_eq_getElem hl⟩
    exact (h4 j' f w hf hw').same W
  · rw [List.getElem?_set_ne (Ne.symm e)] at hv'
    have m1 : f ∈ fs := List.mem_of_getElem? hf
    have m2 : f' ∈ fs := List.mem_of_getElem? hf'
    have hn : f'.2.1 ≠ f.2.1 := fun q => by
      have g1 : (fs.map fun f => f.2.1)[j']? = some f'.2.1 := by simp [hf']
      have g2 : (fs.map fun f => f.2.1)[j]? = some f.2.1 := by simp [hf]
      rw [q] at g1
      obtain ⟨l1, e1⟩ := List.getElem?_eq_some_iff.mp g1
      obtain ⟨l2, e2⟩ := List.getElem?_eq_some_iff.mp g2
      rcases Nat.lt_or_gt_of_ne e with lt | lt
      · exact (List.pairwise_iff_getElem.mp k3) j' j l1 l2 lt (e1.trans e2.symm)
      · exact (List.pairwise_iff_getElem.mp k3) j j' l2 l1 lt (e2.trans e1.symm)
    exact (h4 j' f' v' hf' hv').other W (Or.inr (slot_ne ((k2 f' m2).laid hw) ((k2 f m1).laid hw) hn (k2 f' m2).2 (k2 f m1).2))
theorem CellOk.sto {ty : FieldType} {vs : List Value} {j : Nat} {v : Value} (W : Wr h h' a j (cv Z.heap.size v)) (F : CellOk Z K h a (.inr (ty, vs))) (hv : fits ty v = true) : CellOk Z K h' a (.inr (ty, vs.set j v)) := by
  obtain ⟨cell, h1, h2, h3⟩ := F
  refine ⟨_, h1.same W, ?_, fun w hw => ?_⟩
  · simp [Cell.setSlot, h2, List.map_set]
  · rcases List.mem_or_eq_of_mem_set hw with q | q
    · exact h3 w q
    · exact q ▸ hv
end Heap
section Logic
variable {tb : List Cond} {K : KTab} {μ : Mth} {rm : Room} {pc : Nat} {L : List Slot} {S : List Value} {H : AHeap} {Q Q' : Option Value → AHeap → Prop}
theorem via_of {Z : State} {a0 : Array Value} (hw : ∀ d ∈ tb, d.before a0 Z = true) {R0 O n d : String} (via : R0 = O ∨ Cond.sameField R0 O n d ∈ tb) : Via Z R0 O n d := by
  rcases via with rfl | q
  · exact Via.refl
  · exact Via.of (hw _ q)
theorem W.getF {idx i j c n : Nat} {C R0 host : String} {fs : List (String × String × String × FieldType)} {vs : List Value} {f : String × String × String × FieldType} {v : Value} (hd : decode μ.2.1 pc = .ok (.getfield idx, 3))
    (w : Cond.fieldLink μ.1.cls idx R0 f.2.1 f.2.2.1 ∈ tb ∨ Cond.fieldLinkNest μ.1.cls idx R0 f.2.1 f.2.2.1 host ∈ tb) (via : R0 = f.1 ∨ Cond.sameField R0 f.1 f.2.1 f.2.2.1 ∈ tb) (hK : K[c]? = some (C, n, fs)) (hf : fs[j]? = some f) (hH : H[i]? = some (.inl (c, vs))) (hv : vs[j]? = some v)
    (h : W tb K μ rm (pc + 3) L (v :: S) H Q) : W tb K μ rm pc L (.ref i :: S) H Q := by
  intro hL Z a0 p l e R s m args below meth c' T locs cells slots X
  obtain ⟨X0, hx, hZ, hw, hby, hml, hrt, hnm, hlk, hown, hR, hr⟩ := X
  obtain ⟨C', n', fs', k1, k2, k3, k4⟩ := hR.2 _ _ hH
  cases hK.symm.trans k1
  have F := k4 j f v hf hv
  obtain ⟨T1, X1, e1, st⟩ := RoadKit.getF X0 hx hZ hown (w.imp (hw _) (hw _)) (via_of hw via) rfl F (g := mkF m pc (L.map (cs Z.heap.size)).toArray ((Value.ref i :: S).map (cv Z.heap.size))) rfl rfl (hb hby hd)
  exact (h hL Z a0 p l e R s m args below meth c' T1 locs cells slots ⟨X1, hx, hZ, hw, hby, hml, hrt, hnm, hlk, hown, e1 ▸ hR, hr⟩).steps st
theorem W.putF {idx i j c n : Nat} {C R0 host : String} {fs : List (String × String × String × FieldType)} {vs : List Value} {f : String × String × String × FieldType} {v : Value} (hKO : KOk tb K) (hd : decode μ.2.1 pc = .ok (.putfield idx, 3))
    (w : Cond.fieldLink μ.1.cls idx R0 f.2.1 f.2.2.1 ∈ tb ∨ Cond.fieldLinkNest μ.1.cls idx R0 f.2.1 f.2.2.1 host ∈ tb) (via : R0 = f.1 ∨ Cond.sameField R0 f.1 f.2.1 f.2.2.1 ∈ tb) (hK : K[c]? = some (C, n, fs)) (hf : fs[j]? = some f)
    (la : Cond.lays C f.1 f.2.1 f.2.2.1 ∈ tb ∨ (Cond.laysFinal C f.1 f.2.1 f.2.2.1 ∈ tb ∧ μ.1.cls = f.1 ∧ μ.1.name = "<init>")) (hn : narrow f.2.2.2 v = v) (hfi : fits f.2.2.2 v = true) (hH : H[i]? = some (.inl (c, vs)))
    (h : W tb K μ rm (pc + 3) L S (H.set i (.inl (c, vs.set j v))) Q) : W tb K μ rm pc L (v :: .ref i :: S) H Q := by
  intro hL Z a0 p l e R s m args below meth c' T locs cells slots X
  obtain ⟨X0, hx, hZ, hw, hby, hml, hrt, hnm, hlk, hown, hR, hFr, hr⟩ := X
  have CO := hR.2 _ _ hH
  obtain ⟨C', n', fs', k1, k2, k3, k4⟩ := CO
  cases hK.symm.trans k1
  have hl : j < vs.length := by rw [k2]; exact (List.getElem?_eq_some_iff.mp hf).1
  have F := k4 j f vs[j] hf (List.getElem?_eq_getElem hl)
  obtain ⟨o1, o2, o3⟩ := hKO _ (mem_of_get hK)
  obtain ⟨T1, h1, X1, e1, W1, st⟩ := RoadKit.putF X0 hx hZ hown (w.imp (hw _) (hw _)) (via_of hw via) rfl F k3 (la.imp (hw _) fun q => ⟨hw _ q.1, q.2.1, hnm.trans q.2.2⟩) (hw _ o1) (o2 f (List.mem_of_getElem? hf)).2 (v := cv Z.heap.size v) (by rw [cv_narrow, hn]) (by rw [cv_fits]; exact hfi) (g := mkF m pc (L.map (cs Z.heap.size)).toArray ((v :: Value.ref i :: S).map (cv Z.heap.size))) rfl rfl (hb hby hd)
  exact (h hL Z a0 p l e R s m args below meth c' T1 _ cells slots ⟨X1, hx, hZ, hw, hby, hml, hrt, hnm, hlk, hown, e1 ▸ hR.set W1 (CellOk.put (i := i) hKO hw hK hf W1 (hR.2 _ _ hH)), Fr.snoc X1 hFr (Nat.le_add_right _ _), hr⟩).steps st
/-- a field of a boolean, byte, char or short -/
theorem W.putFN {idx i j c n : Nat} {C R0 : String} {fs : List (String × String × String × FieldType)} {vs : List Value} {f : String × String × String × FieldType} {v v' : Value} (hKO : KOk tb K) (hd : decode μ.2.1 pc = .ok (.putfield idx, 3))
    (w : Cond.fieldLink μ.1.cls idx R0 f.2.1 f.2.2.1 ∈ tb) (via : R0 = f.1 ∨ Cond.sameField R0 f.1 f.2.1 f.2.2.1 ∈ tb) (hK : K[c]? = some (C, n, fs)) (hf : fs[j]? = some f)
    (la : Cond.lays C f.1 f.2.1 f.2.2.1 ∈ tb ∨ (Cond.laysFinal C f.1 f.2.1 f.2.2.1 ∈ tb ∧ μ.1.cls = f.1 ∧ μ.1.name = "<init>")) (hn : narrow f.2.2.2 v = v') (hfi : fits f.2.2.2 v' = true) (hH : H[i]? = some (.inl (c, vs)))
    (h : W tb K μ rm (pc + 3) L S (H.set i (.inl (c, vs.set j v'))) Q) : W tb K μ rm pc L (v :: .ref i :: S) H Q := by
  intro hL Z a0 p l e R s m args below meth c' T locs cells slots X
  obtain ⟨X0, hx, hZ, hw, hby, hml, hrt, hnm, hlk, hown, hR, hFr, hr⟩ := X
  have CO := hR.2 _ _ hH
  obtain ⟨C', n', fs', k1, k2, k3, k4⟩ := CO
  cases hK.symm.trans k1
  have hl : j < vs.length := by rw [k2]; exact (List.getElem?_eq_some_iff.mp hf).1
  have F := k4 j f vs[j] hf (List.getElem?_eq_getElem hl)
  obtain ⟨o1, o2, o3⟩ := hKO _ (mem_of_get hK)
  obtain ⟨T1, h1, X1, e1, W1, st⟩ := RoadKit.putFN X0 hx hZ hown (hw _ w) (via_of hw via) rfl F k3 (la.imp (hw _) fun q => ⟨hw _ q.1, q.2.1, hnm.trans q.2.2⟩) (hw _ o1) (o2 f (List.mem_of_getElem? hf)).2 (v := cv Z.heap.size v) (v' := cv Z.heap.size v') (by rw [cv_narrow, hn]) (by rw [cv_fits]; exact hfi) (g := mkF m pc (L.map (cs Z.heap.size)).toArray ((v :: Value.ref i :: S).map (cv Z.heap.size))) rfl rfl (hb hby hd)
  exact (h hL Z a0 p l e R s m args below meth c' T1 _ cells slots ⟨X1, hx, hZ, hw, hby, hml, hrt, hnm, hlk, hown, e1 ▸ hR.set W1 (CellOk.put (i := i) hKO hw hK hf W1 (hR.2 _ _ hH)), Fr.snoc X1 hFr (Nat.le_add_right _ _), hr⟩).steps st
/-- the index j is the natural N -/
abbrev ix (j : Int32) (N : Nat) : Prop := ¬ j < 0 ∧ j.toNatClampNeg = N
theorem ix_ofNat {N : Nat} (h : N < 2 ^ 31) : ix (Int32.ofNat N) N := by
  have e : (Int32.ofNat N).toInt = N := Int32.toInt_ofNat_of_lt h
  refine ⟨?_, ?_⟩
  · rw [Int32.lt_iff_toInt_lt, e]; simp
  · rw [Int32.toNatClampNeg, e]; rfl
theorem inb {cell : Cell} {j : Int32} {N : Nat} {vs : List Value} {k : Nat} (k2 : cell.slots = (vs.map (cv k)).toArray) (hj : ¬ j < 0) (hN : j.toNatClampNeg = N) (hl : N < vs.length) : ¬ (j < 0 ∨ cell.slots.size ≤ j.toNatClampNeg) := by
  rw [k2, hN]; simp; exact ⟨by simpa using hj, hl⟩
/-- room for an object of n slots -/
def nok (rm : Room) (n : Nat) : Bool := Nat.ble 1 rm.cells && (Nat.ble n rm.slots && Nat.ble n 67108864)
theorem nok_spec {rm : Room} {n : Nat} (h : nok rm n = true) : 1 ≤ rm.cells ∧ n ≤ rm.slots ∧ n * 8 ≤ 536870912 := by
  simp only [nok, Bool.and_eq_true, Nat.ble_eq] at h
  omega
theorem W.new {idx c n i : Nat} {C : String} {fs : List (String × String × String × FieldType)} (hKO : KOk tb K) (hd : decode μ.2.1 pc = .ok (.new idx, 3)) (w : Cond.classLink μ.1.cls idx C ∈ tb) (wz : Cond.initialized C ∈ tb) (hK : K[c]? = some (C, n, fs)) (hi : H.length = i) (hr : nok rm n = true)
    (h : W tb K μ ⟨rm.frames, rm.cells - 1, rm.slots - n, rm.locals⟩ (pc + 3) L (.ref i :: S) (H ++ [.inl (c, fs.map fun f => defaultValue f.2.2.2)]) Q) : W tb K μ rm pc L S H Q := by
  intro hL Z a0 p l e R s m args below meth c' T locs cells slots X
  obtain ⟨X0, hx, hZ, hw, hby, hml, hrt, hnm, hlk, hown, hR, hFr, hr1, hr2, hr3, hr4⟩ := X
  obtain ⟨hc, hs, hb'⟩ := nok_spec hr
  obtain ⟨o1, o2, o3⟩ := hKO _ (mem_of_get hK)
  obtain ⟨vm', cC, kC, h1, h2, h3, h4, X', st⟩ := X0.newCold hx hown (mv hZ (hw _ w)) (mv hZ (hw _ (show Cond.instantiable C n ∈ tb from o1))) (mv hZ (hw _ wz)) (g := mkF m pc (L.map (cs Z.heap.size)).toArray (S.map (cv Z.heap.size))) rfl (hb hby hd) (by omega) (by omega)
  rw [hZ.alike.findClass] at h1
  obtain ⟨kZ, z1, -⟩ := Vm.findClass_spec h1
  obtain ⟨k', z2, z3⟩ := hZ.alike.2.2 _ _ z1
  cases h2.symm.trans z2
  have ei : kC.instanceTypes = kZ.instanceTypes := by rw [z3]
  have hN : (T.heap.push { cls := cC, slots := kC.instanceTypes.map defaultValue, vm := .none })[T.heap.size]? = some { cls := cC, slots := kC.instanceTypes.map defaultValue, vm := .none } := by simp
  have ea : Z.heap.size + i = T.heap.size := by rw [hR.1, hi]
  have CO : CellOk Z K (T.heap.push { cls := cC, slots := kC.instanceTypes.map defaultValue, vm := .none }) (Z.heap.size + H.length) (.inl (c, fs.map fun f => defaultValue f.2.2.2)) := by
    refine ⟨C, n, fs, hK, by simp, ⟨_, kZ, by rw [← hR.1]; exact hN, h1, z1, rfl, fun _ => by simp [ei]⟩, fun j f v hf hv => ?_⟩
    have hv' : v = defaultValue f.2.2.2 := by simpa [hf] using hv.symm
    subst hv'
    obtain ⟨f1, f2⟩ := o2 f (List.mem_of_getElem? hf)
    obtain ⟨c1, k1, cf, kf, i1, ff, b1, b2, b3, b4, b5, b6, -⟩ := (FOk.laid ⟨f1, f2⟩ hw).spec
    cases h1.symm.trans b1
    cases z1.symm.trans b2
    rw [cv_default]
    exact ⟨_, cf, kf, i1, ff, by rw [← hR.1]; exact hN, b3, b4, by simp, rfl, b5, by simp [ei, b6, (State.fieldFound?_type b3 f2).2]⟩
  have := h hL Z a0 p l e R s m args below meth c' _ locs (cells + 1) (slots + n) ⟨X', hx, hZ, hw, hby, hml, hrt, hnm, hlk, hown, hR.push CO, hFr, hr1, by show cells + 1 + (rm.cells - 1) ≤ _; omega, by show slots + n + (rm.slots - n) ≤ _; omega, hr4⟩
  refine this.steps fun t ht => st t ?_
  rw [← ea]; exact ht
theorem W.newarray {aty : ArrayType} {ty : FieldType} {N i : Nat} {n : Int32} {d : Value} (hd : decode μ.2.1 pc = .ok (.newarray aty, 2)) (hty : newarray.typeOf aty = ty) (w : Cond.arrayClass ty ∈ tb) (hdv : defaultValue ty = d) (hn : ix n N) (hi : H.length = i) (hr : nok rm N = true)
    (h : W tb K μ ⟨rm.frames, rm.cells - 1, rm.slots - N, rm.locals⟩ (pc + 2) L (.ref i :: S) (H ++ [.inr (ty, List.replicate N d)]) Q) : W tb K μ rm pc L (.int n :: S) H Q := by
  intro hL Z a0 p l e R s m args below meth c' T locs cells slots X
  obtain ⟨X0, hx, hZ, hw, hby, hml, hrt, hnm, hlk, hown, hR, hFr, hr1, hr2, hr3, hr4⟩ := X
  obtain ⟨hn, hN⟩ := hn
  subst hty hdv hN
  obtain ⟨hc, hs, hb'⟩ := nok_spec hr
  have hcb : componentBytes (newarray.typeOf aty) ≤ 8 := by cases aty <;> decide
  obtain ⟨cA, kA, comp, h1, h2, h3, X', st⟩ := X0.newarrayPrim hx (mvA hZ (hw _ w)) (g := mkF m pc (L.map (cs Z.heap.size)).toArray ((Value.int n :: S).map (cv Z.heap.size))) rfl (hb hby hd) (n := n) rfl hn (Nat.le_trans (Nat.mul_le_mul (Nat.le_refl _) hcb) hb') (by omega) (by omega)
  rw [hZ.alike.findClass] at h1
  obtain ⟨kZ, z1, -⟩ := Vm.findClass_spec h1
  obtain ⟨k', z2, z3⟩ := hZ.alike.2.2 _ _ z1
  cases h2.symm.trans z2
  have hN : (T.heap.push { cls := cA, slots := Array.replicate n.toNatClampNeg (defaultValue (newarray.typeOf aty)), vm := .none })[T.heap.size]? = some { cls := cA, slots := Array.replicate n.toNatClampNeg (defaultValue (newarray.typeOf aty)), vm := .none } := by simp
  have ea : Z.heap.size + i = T.heap.size := by rw [hR.1, hi]
  have CO : CellOk Z K (T.heap.push { cls := cA, slots := Array.replicate n.toNatClampNeg (defaultValue (newarray.typeOf aty)), vm := .none }) (Z.heap.size + H.length) (.inr (newarray.typeOf aty, List.replicate n.toNatClampNeg (defaultValue (newarray.typeOf aty)))) := by
    refine ⟨_, ⟨by rw [← hR.1]; exact hN, ⟨by simp, kZ, z1, comp, by rw [← h3, z3]⟩, by simp⟩, by simp [cv_default], fun v hv => ?_⟩
    rw [(List.mem_replicate.mp hv).2]
    cases aty <;> rfl
  have := h hL Z a0 p l e R s m args below meth c' _ locs (cells + 1) (slots + n.toNatClampNeg) ⟨X', hx, hZ, hw, hby, hml, hrt, hnm, hlk, hown, hR.push CO, hFr, hr1, by show cells + 1 + (rm.cells - 1) ≤ _; omega, by show slots + n.toNatClampNeg + (rm.slots - n.toNatClampNeg) ≤ _; omega, hr4⟩
  refine this.steps fun t ht => st t ?_
  rw [← ea]; exact ht
theorem W.arraylength {i : Nat} {ty : FieldType} {vs : List Value} (hd : decode μ.2.1 pc = .ok (.arraylength, 1)) (hH : H[i]? = some (.inr (ty, vs))) (h : W tb K μ rm (pc + 1) L (.int (Int32.ofNat vs.length) :: S) H Q) : W tb K μ rm pc L (.ref i :: S) H Q := by
  intro hL Z a0 p l e R s m args below meth c' T locs cells slots X
  have X' := X
  obtain ⟨X0, hx, hZ, hw, hby, hml, hrt, hnm, hlk, hown, hR, hr⟩ := X
  obtain ⟨cell, A, k2, k3⟩ := hR.2 _ _ hH
  refine (h hL Z a0 p l e R s m args below meth c' T locs cells slots X').steps fun t ht => ?_
  refine X0.arraylength hx A.1 (State.isArrayOf_alike hZ.alike A.2.1) (g := mkF m pc (L.map (cs Z.heap.size)).toArray ((Value.ref i :: S).map (cv Z.heap.size))) rfl rfl (hb hby hd) t ?_
  have e : cell.slots.size.toInt32 = Int32.ofNat vs.length := by rw [k2]; simp
  rw [e]; exact ht
theorem W.xaload {ins : Instr} {ty : FieldType} (hk : (ins = .iaload ∧ ty = .int) ∨ (ins = .laload ∧ ty = .long) ∨ (ins = .baload ∧ (ty = .byte ∨ ty = .boolean))) {i N : Nat} {j : Int32} {vs : List Value} {v : Value} (hd : decode μ.2.1 pc = .ok (ins, 1)) (hH : H[i]? = some (.inr (ty, vs))) (hj : ix j N) (hv : vs[N]? = some v)
    (h : W tb K μ rm (pc + 1) L (v :: S) H Q) : W tb K μ rm pc L (.int j :: .ref i :: S) H Q := by
  intro hL Z a0 p l e R s m args below meth c' T locs cells slots X
  have X' := X
  obtain ⟨X0, hx, hZ, hw, hby, hml, hrt, hnm, hlk, hown, hR, hr⟩ := X
  obtain ⟨cell, A, k2, k3⟩ := hR.2 _ _ hH
  have hN := hj.2
  have hin := inb k2 hj.1 hN (List.getElem?_eq_some_iff.mp hv).1
  have hv' : cell.slots[j.toNatClampNeg]? = some (cv Z.heap.size v) := by rw [k2, hN]; simp [hv]
  refine (h hL Z a0 p l e R s m args below meth c' T locs cells slots X').steps fun t ht => ?_
  rcases hk with ⟨rfl, rfl⟩ | ⟨rfl, rfl⟩ | ⟨rfl, rfl | rfl⟩
  · exact X0.iaload hx A.1 (State.isArrayOf_alike hZ.alike A.2.1) A.2.2 hin hv' (g := mkF m pc (L.map (cs Z.heap.size)).toArray ((Value.int j :: Value.ref i :: S).map (cv Z.heap.size))) rfl rfl (hb hby hd) t ht
  · exact X0.laload hx A.1 (State.isArrayOf_alike hZ.alike A.2.1) A.2.2 hin hv' (g := mkF m pc (L.map (cs Z.heap.size)).toArray ((Value.int j :: Value.ref i :: S).map (cv Z.heap.size))) rfl rfl (hb hby hd) t ht
  · exact X0.baloadBytes hx A.1 (State.isArrayOf_alike hZ.alike A.2.1) A.2.2 hin hv' (g := mkF m pc (L.map (cs Z.heap.size)).toArray ((Value.int j :: Value.ref i :: S).map (cv Z.heap.size))) rfl rfl (hb hby hd) t ht
  · exact X0.baloadBooleans hx A.1 (State.isArrayOf_alike hZ.alike A.2.1) A.2.2 hin hv' (g := mkF m pc (L.map (cs Z.heap.size)).toArray ((Value.int j :: Value.ref i :: S).map (cv Z.heap.size))) rfl rfl (hb hby hd) t ht
theorem W.iastore {i N : Nat} {j x : Int32} {vs : List Value} (hd : decode μ.2.1 pc = .ok (.iastore, 1)) (hH : H[i]? = some (.inr (.int, vs))) (hj : ix j N) (hl : Nat.blt N vs.length = true)
    (h : W tb K μ rm (pc + 1) L S (H.set i (.inr (.int, vs.set N (.int x)))) Q) : W tb K μ rm pc L (.int x :: .int j :: .ref i :: S) H Q := by
  intro hL Z a0 p l e R s m args below meth c' T locs cells slots X
  obtain ⟨X0, hx, hZ, hw, hby, hml, hrt, hnm, hlk, hown, hR, hFr, hr⟩ := X
  have CO := hR.2 _ _ hH
  obtain ⟨cell, A, k2, k3⟩ := CO
  obtain ⟨T1, h1, X1, e1, W1, st⟩ := stI X0 hx hZ rfl A (inb k2 hj.1 hj.2 (Nat.blt_eq.mp hl)) (g := mkF m pc (L.map (cs Z.heap.size)).toArray ((Value.int x :: Value.int j :: Value.ref i :: S).map (cv Z.heap.size))) rfl rfl (hb hby hd)
  rw [hj.2] at W1
  exact (h hL Z a0 p l e R s m args below meth c' T1 _ cells slots ⟨X1, hx, hZ, hw, hby, hml, hrt, hnm, hlk, hown, e1 ▸ hR.set W1 (CellOk.sto (v := .int x) W1 (hR.2 _ _ hH) rfl), Fr.snoc X1 hFr (Nat.le_add_right _ _), hr⟩).steps st
theorem W.lastore {i N : Nat} {j : Int32} {x : Int64} {vs : List Value} (hd : decode μ.2.1 pc = .ok (.lastore, 1)) (hH : H[i]? = some (.inr (.long, vs))) (hj : ix j N) (hl : Nat.blt N vs.length = true)
    (h : W tb K μ rm (pc + 1) L S (H.set i (.inr (.long, vs.set N (.long x)))) Q) : W tb K μ rm pc L (.long x :: .int j :: .ref i :: S) H Q := by
  intro hL Z a0 p l e R s m args below meth c' T locs cells slots X
  obtain ⟨X0, hx, hZ, hw, hby, hml, hrt, hnm, hlk, hown, hR, hFr, hr⟩ := X
  have CO := hR.2 _ _ hH
  obtain ⟨cell, A, k2, k3⟩ := CO
  obtain ⟨T1, h1, X1, e1, W1, st⟩ := stJ X0 hx hZ rfl A (inb k2 hj.1 hj.2 (Nat.blt_eq.mp hl)) (g := mkF m pc (L.map (cs Z.heap.size)).toArray ((Value.long x :: Value.int j :: Value.ref i :: S).map (cv Z.heap.size))) rfl rfl (hb hby hd)
  rw [hj.2] at W1
  exact (h hL Z a0 p l e R s m args below meth c' T1 _ cells slots ⟨X1, hx, hZ, hw, hby, hml, hrt, hnm, hlk, hown, e1 ▸ hR.set W1 (CellOk.sto (v := .long x) W1 (hR.2 _ _ hH) rfl), Fr.snoc X1 hFr (Nat.le_add_right _ _), hr⟩).steps st
theorem W.bastore {i N : Nat} {j x : Int32} {vs : List Value} (hd : decode μ.2.1 pc = .ok (.bastore, 1)) (hH : H[i]? = some (.inr (.byte, vs))) (hj : ix j N) (hl : Nat.blt N vs.length = true)
    (h : W tb K μ rm (pc + 1) L S (H.set i (.inr (.byte, vs.set N (.int x.toInt8.toInt32)))) Q) : W tb K μ rm pc L (.int x :: .int j :: .ref i :: S) H Q := by
  intro hL Z a0 p l e R s m args below meth c' T locs cells slots X
  obtain ⟨X0, hx, hZ, hw, hby, hml, hrt, hnm, hlk, hown, hR, hFr, hr⟩ := X
  have CO := hR.2 _ _ hH
  obtain ⟨cell, A, k2, k3⟩ := CO
  obtain ⟨T1, h1, X1, e1, W1, st⟩ := stB X0 hx hZ rfl A (inb k2 hj.1 hj.2 (Nat.blt_eq.mp hl)) (g := mkF m pc (L.map (cs Z.heap.size)).toArray ((Value.int x :: Value.int j :: Value.ref i :: S).map (cv Z.heap.size))) rfl rfl (hb hby hd)
  rw [hj.2] at W1
  exact (h hL Z a0 p l e R s m args below meth c' T1 _ cells slots ⟨X1, hx, hZ, hw, hby, hml, hrt, hnm, hlk, hown, e1 ▸ hR.set W1 (CellOk.sto (v := .int x.toInt8.toInt32) W1 (hR.2 _ _ hH) (fits_nar_byte x)), Fr.snoc X1 hFr (Nat.le_add_right _ _), hr⟩).steps st
theorem W.bastoreZ {i N : Nat} {j x : Int32} {vs : List Value} (hd : decode μ.2.1 pc = .ok (.bastore, 1)) (hH : H[i]? = some (.inr (.boolean, vs))) (hj : ix j N) (hl : Nat.blt N vs.length = true)
    (h : W tb K μ rm (pc + 1) L S (H.set i (.inr (.boolean, vs.set N (.int (x &&& 1))))) Q) : W tb K μ rm pc L (.int x :: .int j :: .ref i :: S) H Q := by
  intro hL Z a0 p l e R s m args below meth c' T locs cells slots X
  obtain ⟨X0, hx, hZ, hw, hby, hml, hrt, hnm, hlk, hown, hR, hFr, hr⟩ := X
  have CO := hR.2 _ _ hH
  obtain ⟨cell, A, k2, k3⟩ := CO
  obtain ⟨T1, h1, X1, e1, W1, st⟩ := stZ X0 hx hZ rfl A (inb k2 hj.1 hj.2 (Nat.blt_eq.mp hl)) (g := mkF m pc (L.map (cs Z.heap.size)).toArray ((Value.int x :: Value.int j :: Value.ref i :: S).map (cv Z.heap.size))) rfl rfl (hb hby hd)
  rw [hj.2] at W1
  exact (h hL Z a0 p l e R s m args below meth c' T1 _ cells slots ⟨X1, hx, hZ, hw, hby, hml, hrt, hnm, hlk, hown, e1 ▸ hR.set W1 (CellOk.sto (v := .int (x &&& 1)) W1 (hR.2 _ _ hH) (fits_nar_bool x)), Fr.snoc X1 hFr (Nat.le_add_right _ _), hr⟩).steps st
theorem W.ldcInt {idx : Nat} {x : Int32} (hd : decode μ.2.1 pc = .ok (.ldc idx, 2)) (w : Cond.constant μ.1.cls idx x ∈ tb) (h : W tb K μ rm (pc + 2) L (.int x :: S) H Q) : W tb K μ rm pc L S H Q := by
  intro hL Z a0 p l e R s m args below meth c' T locs cells slots X
  have X' := X
  obtain ⟨X0, hx, hZ, hw, hby, hml, hrt, hnm, hlk, hown, hR, hr⟩ := X
  exact (h hL Z a0 p l e R s m args below meth c' T locs cells slots X').steps (X0.ldcInt hx hown (mvT hZ (hw _ w)) (g := mkF m pc (L.map (cs Z.heap.size)).toArray (S.map (cv Z.heap.size))) rfl (hb hby hd))
theorem W.ldcLong {idx : Nat} {x : Int64} (hd : decode μ.2.1 pc = .ok (.ldc2_w idx, 3)) (w : Cond.constantLong μ.1.cls idx x ∈ tb) (h : W tb K μ rm (pc + 3) L (.long x :: S) H Q) : W tb K μ rm pc L S H Q := by
  intro hL Z a0 p l e R s m args below meth c' T locs cells slots X
  have X' := X
  obtain ⟨X0, hx, hZ, hw, hby, hml, hrt, hnm, hlk, hown, hR, hr⟩ := X
  exact (h hL Z a0 p l e R s m args below meth c' T locs cells slots X').steps (X0.ldc2Long hx hown (mvT hZ (hw _ w)) (g := mkF m pc (L.map (cs Z.heap.size)).toArray (S.map (cv Z.heap.size))) rfl (hb hby hd))
end Logic
end Jvm.Own
namespace Jvm.Own
open Sem ClassFile Op Lib Jvm.Stand Jvm.Free Jvm.LawKit Jvm.RoadKit
section Logic
variable {tb : List Cond} {K : KTab} {μ μ' : Mth} {rm rm' : Room} {pc : Nat} {L : List Slot} {S : List Value} {H : AHeap} {Q Q' : Option Value → AHeap → Prop}
theorem W.ret_ (hd : decode μ.2.1 pc = .ok (.return_, 1)) (hr0 : μ.2.2.2 = none) (hQ : Q none H) : W tb K μ rm pc L [] H Q := by
  intro hL Z a0 p l e R s m args below meth c' T locs cells slots X
  obtain ⟨X0, hx, hZ, hw, hby, hml, hrt, hnm, hlk, hown, hR, hFr, hr1, hr2, hr3, hr4⟩ := X
  obtain ⟨fs, hr, hrun, hended, hW, hsame⟩ := X0.leave (v := none) (fun _ => rfl) hlk
  exact ⟨none, H, T, locs, fs, hQ, X0.returnOut hx (hrt.trans hr0) (hb hby hd) hr, hrun, hended, hW, hsame.mono (by omega) (by omega), hFr, hR⟩
theorem W.ireturn {x : Int32} (hd : decode μ.2.1 pc = .ok (.ireturn, 1)) (hr0 : μ.2.2.2 = some .int) (hQ : Q (some (.int x)) H) : W tb K μ rm pc L (.int x :: S) H Q := by
  intro hL Z a0 p l e R s m args below meth c' T locs cells slots X
  obtain ⟨X0, hx, hZ, hw, hby, hml, hrt, hnm, hlk, hown, hR, hFr, hr1, hr2, hr3, hr4⟩ := X
  obtain ⟨fs, hr, hrun, hended, hW, hsame⟩ := X0.leave (v := some (.int x)) (fun h => by rw [hrt, hr0] at h; cases h) hlk
  exact ⟨some (.int x), H, T, locs, fs, hQ, retOut X0 hx (hrt.trans hr0) rfl (Or.inl ⟨rfl, Or.inl rfl, _, rfl⟩) (hb hby hd) hr, hrun, hended, hW, hsame.mono (by omega) (by omega), hFr, hR⟩
theorem W.ireturnN {t : FieldType} {x : Int32} (hd : decode μ.2.1 pc = .ok (.ireturn, 1)) (hr0 : μ.2.2.2 = some t) (ht : t = .boolean ∨ t = .byte ∨ t = .char ∨ t = .short) (hQ : Q (some (.int (nar t x))) H) : W tb K μ rm pc L (.int x :: S) H Q := by
  intro hL Z a0 p l e R s m args below meth c' T locs cells slots X
  obtain ⟨X0, hx, hZ, hw, hby, hml, hrt, hnm, hlk, hown, hR, hFr, hr1, hr2, hr3, hr4⟩ := X
  obtain ⟨fs, hr, hrun, hended, hW, hsame⟩ := X0.leave (v := some (.int (nar t x))) (fun h => by rw [hrt, hr0] at h; cases h) hlk
  exact ⟨some (.int (nar t x)), H, T, locs, fs, hQ, retN X0 hx (hrt.trans hr0) ht (hb hby hd) hr, hrun, hended, hW, hsame.mono (by omega) (by omega), hFr, hR⟩
theorem W.ireturnZ {x : Int32} (hd : decode μ.2.1 pc = .ok (.ireturn, 1)) (hr0 : μ.2.2.2 = some .boolean) (hQ : Q (some (.int (x &&& 1))) H) : W tb K μ rm pc L (.int x :: S) H Q := W.ireturnN hd hr0 (Or.inl rfl) hQ
theorem W.lreturn {x : Int64} (hd : decode μ.2.1 pc = .ok (.lreturn, 1)) (hr0 : μ.2.2.2 = some .long) (hQ : Q (some (.long x)) H) : W tb K μ rm pc L (.long x :: S) H Q := by
  intro hL Z a0 p l e R s m args below meth c' T locs cells slots X
  obtain ⟨X0, hx, hZ, hw, hby, hml, hrt, hnm, hlk, hown, hR, hFr, hr1, hr2, hr3, hr4⟩ := X
  obtain ⟨fs, hr, hrun, hended, hW, hsame⟩ := X0.leave (v := some (.long x)) (fun h => by rw [hrt, hr0] at h; cases h) hlk
  exact ⟨some (.long x), H, T, locs, fs, hQ, retOut X0 hx (hrt.trans hr0) rfl (Or.inr (Or.inl ⟨rfl, rfl, _, rfl⟩)) (hb hby hd) hr, hrun, hended, hW, hsame.mono (by omega) (by omega), hFr, hR⟩
theorem W.areturn {t : FieldType} {v : Value} (hd : decode μ.2.1 pc = .ok (.areturn, 1)) (hr0 : μ.2.2.2 = some t) (ht : t.isReference = true) (hv : v.isRef = true) (hQ : Q (some v) H) : W tb K μ rm pc L (v :: S) H Q := by
  intro hL Z a0 p l e R s m args below meth c' T locs cells slots X
  obtain ⟨X0, hx, hZ, hw, hby, hml, hrt, hnm, hlk, hown, hR, hFr, hr1, hr2, hr3, hr4⟩ := X
  obtain ⟨fs, hr, hrun, hended, hW, hsame⟩ := X0.leave (v := some (cv Z.heap.size v)) (fun h => by rw [hrt, hr0] at h; cases h) hlk
  exact ⟨some v, H, T, locs, fs, hQ, retOut X0 hx (hrt.trans hr0) (by cases v <;> first | (cases t <;> rfl) | cases hv) (Or.inr (Or.inr (Or.inr (Or.inr ⟨rfl, ht, by rw [cv_isRef]; exact hv⟩)))) (hb hby hd) hr, hrun, hended, hW, hsame.mono (by omega) (by omega), hFr, hR⟩
/-- what a call leaves of the room -/
abbrev less (rm rm' : Room) : Room := ⟨rm.frames, rm.cells - rm'.cells, rm.slots - rm'.slots, rm.locals⟩
abbrev wt (S : List Value) : Nat := (S.map fun v => v.category).sum
abbrev plainCls (μ' : Mth) : Prop := μ'.1.cls ≠ "java/lang/invoke/MethodHandle" ∧ μ'.1.cls ≠ "java/lang/invoke/VarHandle"
/-- room for a call: S stays on the stack, n locals -/
def rok (rm rm' : Room) (n : Nat) (S : List Value) : Bool := Nat.ble (rm'.frames + 1) rm.frames && (Nat.ble (wt S + (n + 11) + rm'.locals) rm.locals && (Nat.ble rm'.cells rm.cells && Nat.ble rm'.slots rm.slots))
theorem rok_spec {rm rm' : Room} {n : Nat} {S : List Value} (h : rok rm rm' n S = true) : rm'.frames + 1 ≤ rm.frames ∧ wt S + (n + 11) + rm'.locals ≤ rm.locals ∧ rm'.cells ≤ rm.cells ∧ rm'.slots ≤ rm.slots := by
  simp only [rok, Bool.and_eq_true, Nat.ble_eq] at h
  exact h
/-- room for Object's constructor -/
def iok (rm : Room) (S : List Value) : Bool := Nat.ble 1 rm.frames && Nat.ble (wt S + 12) rm.locals
/-- a callee that answers one value and leaves one heap -/
abbrev Is (v0 : Option Value) (H0 : AHeap) : Option Value → AHeap → Prop := fun v H => v = v0 ∧ H = H0
theorem hs {H : AHeap} {i : Nat} {c c' : ACell} (h : H[i]? = some c) : (H.set i c')[i]? = some c' := List.getElem?_set_self (List.getElem?_eq_some_iff.mp h).1
theorem hn {H : AHeap} {i j : Nat} {c c' : ACell} (h : H[j]? = some c) (ne : i ≠ j) : (H.set i c')[j]? = some c := by rw [List.getElem?_set_ne ne]; exact h
theorem ha {H H' : AHeap} {j : Nat} {c : ACell} (h : H[j]? = some c) : (H ++ H')[j]? = some c := by rw [List.getElem?_append_left (List.getElem?_eq_some_iff.mp h).1]; exact h
theorem back_st (k : Nat) (v : Option Value) (S : List Value) : (v.map (cv k)).toList ++ S.map (cv k) = (v.toList ++ S).map (cv k) := by cases v <;> rfl
theorem W.callS {idx : Nat} {as : List Value} {S0 : List Value} {ps : List FieldType} {r : Option FieldType} (hd : decode μ.2.1 pc = .ok (.invokestatic idx, 3)) (w1 : Cond.methodLink μ.1.cls idx μ'.1 ∈ tb) (w2 : Cond.static μ'.1 ∈ tb) (w3 : Cond.initialized μ'.1.cls ∈ tb) (w4 : Cond.code μ'.1 μ'.2.1 μ'.2.2.1 μ'.2.2.2 ∈ tb) (hy : plainCls μ')
    (hp : parseMethodDescriptor μ'.1.desc = some ⟨ps, r⟩) (hlen : as.length = ps.length) (hS : S0 = as.reverse ++ S) (hM : M tb K μ' rm' as H Q') (hr : rok rm rm' μ'.2.2.1 S = true)
    (h : ∀ v H', Q' v H' → W tb K μ (less rm rm') (pc + 3) L (v.toList ++ S) H' Q) : W tb K μ rm pc L S0 H Q := by
  intro hL Z a0 p l e R s m args below meth c' T locs cells slots X
  obtain ⟨X0, hx, hZ, hw, hby, hml, hrt, hnm, hlk, hown, hR, hFr, hr1, hr2, hr3, hr4⟩ := X
  obtain ⟨hf, hl, hc, hs⟩ := rok_spec hr
  obtain ⟨_, vm1, ⟨T1, L1, k1, n1⟩, hW1, X1, ⟨Lc, ⟨v', H', rfl, hR', hq', hFr'⟩, l1, y1, z1⟩, st⟩ := Jvm.LawKit.callS X0 hx (y := μ'.1) hown (mvT hZ (hw _ w1)) (mvT hZ (hw _ w2)) (mvT hZ (hw _ w3)) (mvT hZ (hw _ w4)) hy (backOf (R := R) (rm := rm') (h := T.heap) (Q := fun v h L => ∃ v' H', v = Option.map (cv Z.heap.size) v' ∧ Rel Z K h H' ∧ Q' v' H' ∧ Fr Z.heap.size L) (W := wt S) (hM Z a0 hw l T.heap [] hR) hZ (hw _ w4) (hw _ w3) (by omega) (by omega))
    (g := mkF m pc (L.map (cs Z.heap.size)).toArray (S0.map (cv Z.heap.size))) rfl (by simp [hL, hml]) (argsL := as.map (cv Z.heap.size)) (rest := S.map (cv Z.heap.size)) (lenOf hp (by simpa using hlen)) (by rw [hS]; simp) (by show 2 * 0 + _ ≤ _; rw [cat_map]; exact Nat.le_of_eq (by simp)) (hb hby hd) (fun _ _ => ⟨rfl, rfl, by show cells + _ ≤ _; omega, by show slots + _ ≤ _; omega⟩)
  dsimp only [Pt.U, Pt.locs, Pt.cells, Pt.slots] at X1 l1 y1 z1 st hR'
  subst l1 y1 z1
  rw [back_st] at st
  exact (h v' H' hq' hL Z a0 p l e R s m args below meth c' T1 _ _ _ ⟨X1, hx, hZ, hw, hby, hml, hrt, hnm, hlk, hown, hR', Fr.app hFr hFr', hr1, by show cells + _ + (rm.cells - _) ≤ _; omega, by show slots + _ + (rm.slots - _) ≤ _; omega, hr4⟩).steps st
theorem W.callI {idx i : Nat} {as : List Value} {S0 : List Value} {ps : List FieldType} {r : Option FieldType} (hd : decode μ.2.1 pc = .ok (.invokespecial idx, 3)) (hn : μ'.1.name = "<init>") (hr0 : μ'.2.2.2 = none) (w1 : Cond.methodLink μ.1.cls idx μ'.1 ∈ tb) (w2 : Cond.instanceMethod μ'.1 ∈ tb) (w3 : Cond.initialized μ'.1.cls ∈ tb) (w4 : Cond.code μ'.1 μ'.2.1 μ'.2.2.1 μ'.2.2.2 ∈ tb) (hy : plainCls μ')
    (hp : parseMethodDescriptor μ'.1.desc = some ⟨ps, r⟩) (hlen : as.length = ps.length) (hS : S0 = as.reverse ++ .ref i :: S) (hM : M tb K μ' rm' (.ref i :: as) H Q') (hr : rok rm rm' μ'.2.2.1 S = true)
    (h : ∀ v H', Q' v H' → W tb K μ (less rm rm') (pc + 3) L (v.toList ++ S) H' Q) : W tb K μ rm pc L S0 H Q := by
  intro hL Z a0 p l e R s m args below meth c' T locs cells slots X
  obtain ⟨X0, hx, hZ, hw, hby, hml, hrt, hnm, hlk, hown, hR, hFr, hr1, hr2, hr3, hr4⟩ := X
  obtain ⟨hf, hl, hc, hs⟩ := rok_spec hr
  have w4' : (Cond.code μ'.1 μ'.2.1 μ'.2.2.1 none).before a0 Z = true := by have q := hw _ w4; rw [hr0] at q; exact q
  obtain ⟨_, vm1, ⟨T1, L1, k1, n1⟩, hW1, X1, ⟨Lc, ⟨v', H', rfl, hR', hq', hFr'⟩, l1, y1, z1⟩, st⟩ := X0.specialBack hx (y := μ'.1) hn hown (mvT hZ (hw _ w1)) (mvT hZ (hw _ w2)) (mvT hZ w4') hy (backOf (R := R) (rm := rm') (h := T.heap) (Q := fun v h L => ∃ v' H', v = Option.map (cv Z.heap.size) v' ∧ Rel Z K h H' ∧ Q' v' H' ∧ Fr Z.heap.size L) (W := wt S) (hM Z a0 hw l T.heap [] hR) hZ (hw _ w4) (hw _ w3) (by omega) (by omega))
    (g := mkF m pc (L.map (cs Z.heap.size)).toArray (S0.map (cv Z.heap.size))) rfl (by simp [hL, hml]) (Steps.refl _) (a := Z.heap.size + i) (argsL := as.map (cv Z.heap.size)) (rest := S.map (cv Z.heap.size)) (lenOf hp (by simpa using hlen)) (by rw [hS]; simp [cv]) (by show 2 * 0 + _ ≤ _; rw [cat_map]; exact Nat.le_of_eq (by simp)) (hb hby hd) (fun _ _ => ⟨rfl, rfl, by show cells + _ ≤ _; omega, by show slots + _ ≤ _; omega⟩)
  dsimp only [Pt.U, Pt.locs, Pt.cells, Pt.slots] at X1 l1 y1 z1 st hR'
  subst l1 y1 z1
  rw [back_st] at st
  exact (h v' H' hq' hL Z a0 p l e R s m args below meth c' T1 _ _ _ ⟨X1, hx, hZ, hw, hby, hml, hrt, hnm, hlk, hown, hR', Fr.app hFr hFr', hr1, by show cells + _ + (rm.cells - _) ≤ _; omega, by show slots + _ + (rm.slots - _) ≤ _; omega, hr4⟩).steps (fun t ht => st.trans ht)
/-- the opcode that returns nothing -/
def opReturn : UInt8 := 177
/-- java/lang/Object's constructor -/
theorem W.initO {idx i : Nat} (hd : decode μ.2.1 pc = .ok (.invokespecial idx, 3)) (w1 : Cond.methodLink μ.1.cls idx Lib.objectInit ∈ tb) (w2 : Cond.instanceMethod Lib.objectInit ∈ tb) (w3 : Cond.code Lib.objectInit ⟨#[opReturn]⟩ 1 none ∈ tb) (hr : iok rm S = true)
    (h : W tb K μ rm (pc + 3) L S H Q) : W tb K μ rm pc L (.ref i :: S) H Q := by
  intro hL Z a0 p l e R s m args below meth c' T locs cells slots X
  obtain ⟨X0, hx, hZ, hw, hby, hml, hrt, hnm, hlk, hown, hR, hFr, hr1, hr2, hr3, hr4⟩ := X
  simp only [iok, Bool.and_eq_true, Nat.ble_eq] at hr
  obtain ⟨hf, hl⟩ := hr
  obtain ⟨T1, X1, e1, st⟩ := RoadKit.initO X0 hx hZ hown (hw _ w1) (hw _ w2) (hw _ w3) rfl (g := mkF m pc (L.map (cs Z.heap.size)).toArray ((Value.ref i :: S).map (cv Z.heap.size))) rfl (by simp [hL, hml]) rfl (hb hby hd) (by omega) (W := wt S) (by show 2 * 0 + _ ≤ _; rw [cat_map]; exact Nat.le_of_eq (by simp)) (by omega)
  exact (h hL Z a0 p l e R s m args below meth c' T1 locs cells slots ⟨X1, hx, hZ, hw, hby, hml, hrt, hnm, hlk, hown, e1 ▸ hR, hFr, hr1, hr2, hr3, hr4⟩).steps st
theorem W.callV {idx i c n : Nat} {C : String} {fs : List (String × String × String × FieldType)} {vs : List Value} {y : MethodName} {as : List Value} {S0 : List Value} {ps : List FieldType} {r : Option FieldType} (hd : decode μ.2.1 pc = .ok (.invokevirtual idx, 3)) (w1 : Cond.methodLink μ.1.cls idx y ∈ tb) (w2 : Cond.declares y ∈ tb) (w3 : Cond.selects C y μ'.1 ∈ tb) (hnf : y = μ'.1 ∨ ∃ q ∈ K, q.1 = y.cls) (hKO : KOk tb K)
    (w4 : Cond.instanceMethod μ'.1 ∈ tb) (w5 : Cond.initialized μ'.1.cls ∈ tb) (w6 : Cond.code μ'.1 μ'.2.1 μ'.2.2.1 μ'.2.2.2 ∈ tb) (hy : y.cls ≠ "java/lang/invoke/MethodHandle" ∧ y.cls ≠ "java/lang/invoke/VarHandle") (hK : K[c]? = some (C, n, fs)) (hp : parseMethodDescriptor y.desc = some ⟨ps, r⟩) (hlen : as.length = ps.length) (hS : S0 = as.reverse ++ .ref i :: S)
    (hH : H[i]? = some (.inl (c, vs))) (hM : M tb K μ' rm' (.ref i :: as) H Q') (hr : rok rm rm' μ'.2.2.1 S = true)
    (h : ∀ v H', Q' v H' → W tb K μ (less rm rm') (pc + 3) L (v.toList ++ S) H' Q) : W tb K μ rm pc L S0 H Q := by
  intro hL Z a0 p l e R s m args below meth c' T locs cells slots X
  obtain ⟨X0, hx, hZ, hw, hby, hml, hrt, hnm, hlk, hown, hR, hFr, hr1, hr2, hr3, hr4⟩ := X
  obtain ⟨hf, hl, hc, hs⟩ := rok_spec hr
  obtain ⟨C', n', fs', q1, q2, q3, q4⟩ := hR.2 _ _ hH
  cases hK.symm.trans q1
  obtain ⟨cB, kB, b1, b2, b3⟩ := isOf (T := T) hZ rfl q3
  have nf : NotFace s y := by
    rcases hnf with rfl | ⟨q, hq, hqc⟩
    · exact notFace_of_selects (args := #[]) (mvT hZ (hw _ w3))
    · intro r0 h0
      have g1 := findClass_of_methodNamed h0
      obtain ⟨c1, k1, i1, i2, i3, i4, -⟩ := Cond.instantiable_spec (args := #[]) (s := s) (mv hZ (hw _ (hKO q hq).1))
      rw [hqc] at i1
      cases g1.symm.trans i1
      exact ⟨k1, i2, by simp only [Bool.or_eq_false_iff] at i4; exact i4.1⟩
  obtain ⟨_, vm1, ⟨T1, L1, k1, n1⟩, hW1, X1, ⟨Lc, ⟨v', H', rfl, hR', hq', hFr'⟩, l1, y1, z1⟩, st⟩ := X0.virtualBack hx (y := y) (z := μ'.1) hown (mvT hZ (hw _ w1)) (mvT hZ (hw _ w2)) nf (mvT hZ (hw _ w3)) (mvT hZ (hw _ w4)) hy (backOf (R := R) (rm := rm') (h := T.heap) (Q := fun v h L => ∃ v' H', v = Option.map (cv Z.heap.size) v' ∧ Rel Z K h H' ∧ Q' v' H' ∧ Fr Z.heap.size L) (W := wt S) (hM Z a0 hw l T.heap [] hR) hZ (hw _ w6) (hw _ w5) (by omega) (by omega)) b1 b3
    (g := mkF m pc (L.map (cs Z.heap.size)).toArray (S0.map (cv Z.heap.size))) rfl (by simp [hL, hml]) (Steps.refl _) (argsL := as.map (cv Z.heap.size)) (rest := S.map (cv Z.heap.size)) (lenOf hp (by simpa using hlen)) (by rw [hS]; simp [cv]) (by show 2 * 0 + _ ≤ _; rw [cat_map]; exact Nat.le_of_eq (by simp)) (hb hby hd) (fun _ _ => ⟨rfl, rfl, by show cells + _ ≤ _; omega, by show slots + _ ≤ _; omega⟩)
  dsimp only [Pt.U, Pt.locs, Pt.cells, Pt.slots] at X1 l1 y1 z1 st hR'
  subst l1 y1 z1
  rw [back_st] at st
  exact (h v' H' hq' hL Z a0 p l e R s m args below meth c' T1 _ _ _ ⟨X1, hx, hZ, hw, hby, hml, hrt, hnm, hlk, hown, hR', Fr.app hFr hFr', hr1, by show cells + _ + (rm.cells - _) ≤ _; omega, by show slots + _ + (rm.slots - _) ≤ _; omega, hr4⟩).steps (fun t ht => st.trans ht)
/-- a private method, by invokevirtual -/
theorem W.callP {idx i c n : Nat} {C : String} {fs : List (String × String × String × FieldType)} {vs : List Value} {as : List Value} {S0 : List Value} {ps : List FieldType} {r : Option FieldType} (hd : decode μ.2.1 pc = .ok (.invokevirtual idx, 3)) (w1 : Cond.methodLink μ.1.cls idx μ'.1 ∈ tb) (w2 : Cond.privateMethod μ'.1 ∈ tb) (hKO : KOk tb K)
    (w4 : Cond.instanceMethod μ'.1 ∈ tb) (w5 : Cond.initialized μ'.1.cls ∈ tb) (w6 : Cond.code μ'.1 μ'.2.1 μ'.2.2.1 μ'.2.2.2 ∈ tb) (hy : plainCls μ') (hK : K[c]? = some (C, n, fs)) (hC : C = μ'.1.cls) (hp : parseMethodDescriptor μ'.1.desc = some ⟨ps, r⟩) (hlen : as.length = ps.length) (hS : S0 = as.reverse ++ .ref i :: S)
    (hH : H[i]? = some (.inl (c, vs))) (hM : M tb K μ' rm' (.ref i :: as) H Q') (hr : rok rm rm' μ'.2.2.1 S = true)
    (h : ∀ v H', Q' v H' → W tb K μ (less rm rm') (pc + 3) L (v.toList ++ S) H' Q) : W tb K μ rm pc L S0 H Q := by
  intro hL Z a0 p l e R s m args below meth c' T locs cells slots X
  obtain ⟨X0, hx, hZ, hw, hby, hml, hrt, hnm, hlk, hown, hR, hFr, hr1, hr2, hr3, hr4⟩ := X
  obtain ⟨hf, hl, hc, hs⟩ := rok_spec hr
  obtain ⟨C', n', fs', q1, q2, q3, q4⟩ := hR.2 _ _ hH
  cases hK.symm.trans q1
  obtain ⟨cell, c1, c2⟩ := q3.cell
  obtain ⟨mk, methM, m1, m2, m3, m4⟩ := Cond.instanceMethod_spec (args := args) (mv hZ (hw _ w4))
  obtain ⟨methM', cM, hmethM', -, -, -, -, -, -, hsigM⟩ := Cond.code_spec m1 (mv (args := args) hZ (hw _ w6))
  cases m2.symm.trans hmethM'
  obtain ⟨cc, kk, i1, i2, i3, i4, -⟩ := Cond.instantiable_spec (args := args) (s := s) (mv hZ (hw _ (hKO _ (mem_of_get hK)).1))
  have g1 := findClass_of_methodNamed m1
  rw [← hC] at g1
  cases g1.symm.trans i1
  have hni : kk.isInterface = false := by simp only [Bool.or_eq_false_iff] at i4; exact i4.1
  have hpriv : s.PrivateAt μ'.1 := Cond.privateMethod_at (mvP hZ (hw _ w2) (args := #[]))
  have hsel : selectMethod e.platform s.vm cell.cls mk = .method mk := selectMethod_private m2 (hpriv mk methM m1 m2)
  obtain ⟨vm1, X1', st1⟩ := X0.invokevirtual hx hown (mvT hZ (hw _ w1)) m1 m2 m3 i2 hni hy (a := Z.heap.size + i) (cell := cell) c1 c2 hsel m2 m4 i2 hni (g := mkF m pc (L.map (cs Z.heap.size)).toArray (S0.map (cv Z.heap.size))) rfl (argsL := as.map (cv Z.heap.size)) (rest := S.map (cv Z.heap.size)) (lenOf hp (by simpa using hlen) _ hsigM) (by rw [hS]; simp [cv]) (hb hby hd)
  obtain ⟨_, ⟨T1, L1, k1, n1⟩, X1, ⟨Lc, ⟨v', H', rfl, hR', hq', hFr'⟩, l1, y1, z1⟩, st⟩ := (backOf (R := R) (rm := rm') (h := T.heap) (Q := fun v h L => ∃ v' H', v = Option.map (cv Z.heap.size) v' ∧ Rel Z K h H' ∧ Q' v' H' ∧ Fr Z.heap.size L) (W := wt S) (hM Z a0 hw l T.heap [] hR) hZ (hw _ w6) (hw _ w5) (by omega) (by omega)) m meth c' ⟨T.setVm vm1, locs, cells, slots⟩ (mkF m pc (L.map (cs Z.heap.size)).toArray (S.map (cv Z.heap.size))) (.invokevirtual idx) mk (.ref (Z.heap.size + i) :: as.map (cv Z.heap.size)).toArray X1' rfl (by simp [hL, hml]) (hb hby hd) (by show 2 * 0 + _ ≤ _; rw [cat_map]; exact Nat.le_of_eq (by simp)) (X1'.named m1) ⟨rfl, rfl, by show cells + _ ≤ _; omega, by show slots + _ ≤ _; omega⟩
  dsimp only [Pt.U, Pt.locs, Pt.cells, Pt.slots] at X1 l1 y1 z1 st hR'
  subst l1 y1 z1
  rw [back_st] at st
  exact (h v' H' hq' hL Z a0 p l e R s m args below meth c' T1 _ _ _ ⟨X1, hx, hZ, hw, hby, hml, hrt, hnm, hlk, hown, hR', Fr.app hFr hFr', hr1, by show cells + _ + (rm.cells - _) ≤ _; omega, by show slots + _ + (rm.slots - _) ≤ _; omega, hr4⟩).steps (fun t ht => (st1 _ fun acts => by rw [doInvoke_state]; exact Steps.refl _).trans (st.trans ht))
/-- the locals at the entry -/
def ent : List Value → List Slot
  | [] => []
  | v :: r => if v.category = 2 then .val v :: .second :: ent r else .val v :: ent r
theorem ent_map (k : Nat) (as : List Value) : ent (as.map (cv k)) = (ent as).map (cs k) := by
  induction as with
  | nil => rfl
  | cons v r ih => by_cases h : v.category = 2 <;> simp [ent, h, cv_cat, ih, cs]
theorem fold_ent (as : List Value) : ∀ acc : Array Slot, as.foldl (fun acc v => if v.category = 2 then (acc.push (.val v)).push .second else acc.push (.val v)) acc = acc ++ (ent as).toArray := by
  induction as with
  | nil => intro acc; simp [ent]
  | cons v r ih => intro acc; by_cases h : v.category = 2 <;> simp [ent, h, ih]
theorem locals_of (k n : Nat) (as : List Value) : argsToLocals (as.map (cv k)).toArray n = ((ent as ++ List.replicate (n - (ent as).length) Slot.unset).map (cs k)).toArray := by
  have h : (as.map (cv k)).toArray.foldl (fun (acc : Array Slot) v => if v.category = 2 then (acc.push (.val v)).push .second else acc.push (.val v)) #[] = ((ent as).map (cs k)).toArray := by
    rw [List.foldl_toArray, fold_ent, ent_map]; simp
  simp only [argsToLocals]
  rw [h]
  simp [cs]
theorem M.of {as : List Value} (hn : plainFor μ.1 = true) (hl : ent as ++ List.replicate (μ.2.2.1 - (ent as).length) .unset = L) (hl' : L.length = μ.2.2.1) (h : W tb K μ rm 0 L [] H Q) : M tb K μ rm as H Q := by
  intro Z a0 hw l h0 ws hR
  refine MetFree.of_bodySF hn hisR ?_
  intro p e s m args below meth c s₁ Bd hml0 hP hK
  obtain ⟨rfl, hZ, hh⟩ := hP
  have e0 : s₁.heap = h0 := by rw [← hh, Bd.state]; rfl
  obtain ⟨v, H', T, locs, fs, hq, st, hrun, hended, hW, hsame, hFr, hR'⟩ := h hl' Z a0 p l e rm s m _ below meth c s₁ [] 0 0 ⟨Stand.of_body Bd, Bd.exec, hZ, hw, Bd.bytes, hml0, Bd.returns, (name_of_methodNamed Bd.named Bd.method).1, Bd.notSynchronized, findClass_of_methodNamed Bd.named, e0 ▸ hR, Fr.nil _, Nat.le_refl _, Nat.le_of_eq (Nat.zero_add _), Nat.le_of_eq (Nat.zero_add _), Nat.le_refl _⟩
  have q : entryFrame m (as.map (cv Z.heap.size)).toArray μ.2.2.1 = mkF m 0 (L.map (cs Z.heap.size)).toArray [] := by
    rw [← hl, entryFrame, locals_of]
  exact ⟨_, _, castTop q st, hrun, hended, _, locs, rfl, ⟨v, H', rfl, hR', hq, hFr⟩, ⟨_, rfl⟩, hW, hsame⟩
end Logic
end Jvm.Own
namespace Jvm.Own
open Sem ClassFile Op Lib Jvm.Stand Jvm.Free Jvm.LawKit Jvm.RoadKit
section Copy
variable {tb : List Cond} {K : KTab} {μ : Mth} {rm : Room} {pc : Nat} {L : List Slot} {S : List Value} {H : AHeap} {Q : Option Value → AHeap → Prop}
/-- room for System.arraycopy -/
def cok (rm : Room) (S : List Value) : Bool := Nat.ble 1 rm.frames && Nat.ble (wt S + 18) rm.locals
/-- System.arraycopy of the first N ints -/
theorem W.acopyI {idx a b N : Nat} {nn : Int32} {vs vd : List Value} (hd : decode μ.2.1 pc = .ok (.invokestatic idx, 3)) (w1 : Cond.methodLink μ.1.cls idx Jvm.Stand.acN ∈ tb) (w2 : Cond.native Jvm.Stand.acN ∈ tb) (w3 : Cond.static Jvm.Stand.acN ∈ tb) (w4 : Cond.initialized "java/lang/System" ∈ tb)
    (hA : H[a]? = some (.inr (.int, vs))) (hB : H[b]? = some (.inr (.int, vd))) (hn : ix nn N) (h1 : N ≤ vs.length) (h2 : N ≤ vd.length) (hr : cok rm S = true)
    (h : W tb K μ rm (pc + 3) L S (H.set b (.inr (.int, vs.take N ++ vd.drop N))) Q) : W tb K μ rm pc L (.int nn :: .int 0 :: .ref b :: .int 0 :: .ref a :: S) H Q := by
  intro hL Z a0 p l e R s m args below meth c' T locs cells slots X
  obtain ⟨X0, hx, hZ, hw, hby, hml, hrt, hnm, hlk, hown, hR, hFr, hr1, hr2, hr3, hr4⟩ := X
  simp only [cok, Bool.and_eq_true, Nat.ble_eq] at hr
  obtain ⟨hf, hlo⟩ := hr
  obtain ⟨hn, hN⟩ := hn
  obtain ⟨cs', As, ks, fs⟩ := hR.2 _ _ hA
  obtain ⟨cd, Ad, kd, fd⟩ := hR.2 _ _ hB
  obtain ⟨os, Ks, hks, sc, hsk⟩ := State.isArrayOf_alike hZ.alike As.2.1
  obtain ⟨od, Kd, hkd, dc, hdk⟩ := State.isArrayOf_alike hZ.alike Ad.2.1
  have e7 : nativeFrameWords "java/lang/System" "arraycopy" 5 = 7 := by decide
  have z0 : (0 : Int32).toNatClampNeg = 0 := by decide
  have zi : (0 : Int32).toInt = 0 := by decide
  have nI : nn.toInt = (N : Int) := by
    rw [Int32.lt_iff_toInt_lt, zi] at hn
    rw [← hN, Int32.toNatClampNeg]; omega
  have ss : cs'.slots.size = vs.length := by rw [ks]; simp
  have sd : cd.slots.size = vd.length := by rw [kd]; simp
  have gv : ∀ i, i < N → ∃ v, vs[i]? = some v ∧ cs'.slots.getD i .null = cv Z.heap.size v := fun i hi => by
    have hi' : i < vs.length := by omega
    refine ⟨vs[i], List.getElem?_eq_getElem hi', ?_⟩
    rw [Array.getD_eq_getD_getElem?, ks]; simp [hi']
  obtain ⟨vm₁, hW₁, X', st⟩ := X0.arraycopyK hx hown (mvT hZ (hw _ w1)) (mvT hZ (hw _ w2)) (mvT hZ (hw _ w3)) (mvT hZ (hw _ w4)) (src := Z.heap.size + a) (dst := Z.heap.size + b) (srcPos := 0) (destPos := 0) (n := nn) As.1 Ad.1 os od As.2.2 Ad.2.2 hks hkd hsk hdk (by decide) (by decide) (by decide) hn (by rw [zi, nI, ss]; omega) (by rw [zi, nI, sd]; omega)
    (fun vm₁ hw' i hi => by
      rw [hN] at hi
      rw [z0, Nat.zero_add]
      obtain ⟨v, e1, e2⟩ := gv i hi
      rw [e2]
      have q := fs v (List.mem_of_getElem? e1)
      refine ⟨by rw [cv_fits]; exact q, ?_⟩
      cases v <;> first | trivial | (simp [fits] at q))
    (g := mkF m pc (L.map (cs Z.heap.size)).toArray ((Value.int nn :: .int 0 :: .ref b :: .int 0 :: .ref a :: S).map (cv Z.heap.size))) rfl (by simp [hL, hml]) (rest := S.map (cv Z.heap.size)) rfl (hb hby hd) (by omega) (by
      rw [e7]
      show 2 * 0 + ((S.map (cv Z.heap.size)).map fun v => v.category).sum + (7 + 11) ≤ _
      rw [cat_map]
      show 2 * 0 + wt S + (7 + 11) ≤ _
      omega)
  have hbL : b < H.length := (List.getElem?_eq_some_iff.mp hB).1
  have hbs : Z.heap.size + b < T.heap.size := by rw [hR.1]; omega
  have cf := cd.storeRun_facts (0 : Int32).toNatClampNeg (cs'.stretch (0 : Int32).toNatClampNeg nn.toNatClampNeg)
  have est : cs'.stretch (0 : Int32).toNatClampNeg nn.toNatClampNeg = (vs.take N).map (cv Z.heap.size) := by
    rw [z0, hN]
    apply List.ext_getElem?
    intro i
    show ((List.range N).map _)[i]? = _
    by_cases hi : i < N
    · obtain ⟨v, e1, e2⟩ := gv i hi
      rw [Array.getD_eq_getD_getElem?] at e2
      simp [hi, e2, e1]
    · rw [List.getElem?_eq_none (by simp; omega), List.getElem?_eq_none (by simp; omega)]
  have eq : (copied cs' cd 0 0 nn).slots = ((vs.take N ++ vd.drop N).map (cv Z.heap.size)).toArray := by
    apply Array.ext_getElem?
    intro j
    show (cd.storeRun _ (cs'.stretch _ _)).slots[j]? = _
    rw [est, z0, Cell.storeRun_get _ _ _ _ (by simp; omega)]
    have ln : ((vs.take N).map (cv Z.heap.size)).length = N := by simp; omega
    have lt : (vs.take N).length = N := by simp; omega
    rw [ln]
    by_cases hj : j < N
    · rw [if_pos ⟨Nat.zero_le _, by omega⟩, List.getElem?_toArray, List.map_append, List.getElem?_append_left (by rw [ln]; exact hj), Nat.sub_zero]
    · rw [if_neg (by omega), kd, List.getElem?_toArray, List.getElem?_toArray, List.map_append, List.getElem?_append_right (by rw [ln]; omega), ln, List.getElem?_map, List.getElem?_map, List.getElem?_drop, show N + (j - N) = j by omega]
  have eh : ((T.setVm vm₁).setCell (Z.heap.size + b) (copied cs' cd 0 0 nn)).heap = T.heap.setIfInBounds (Z.heap.size + b) (copied cs' cd 0 0 nn) := rfl
  have hR' : Rel Z K ((T.setVm vm₁).setCell (Z.heap.size + b) (copied cs' cd 0 0 nn)).heap (H.set b (.inr (.int, vs.take N ++ vd.drop N))) := by
    rw [eh]
    refine ⟨by simp [hR.1], fun i c q => ?_⟩
    by_cases u : i = b
    · subst u
      rw [List.getElem?_set_self hbL] at q
      cases q
      refine ⟨copied cs' cd 0 0 nn, ⟨by rw [Array.getElem?_setIfInBounds_self_of_lt hbs], ?_, by rw [cf.2.1]; exact Ad.2.2⟩, eq, fun v hv => ?_⟩
      · have := Ad.2.1; unfold State.isArrayOf at this ⊢; rw [cf.1, cf.2.1]; exact this
      · rcases List.mem_append.mp hv with q | q
        · exact fs v (List.mem_of_mem_take q)
        · exact fd v (List.mem_of_mem_drop q)
    · rw [List.getElem?_set_ne (Ne.symm u)] at q
      have ne : Z.heap.size + b ≠ Z.heap.size + i := fun q' => u (Nat.add_left_cancel q').symm
      have CO := hR.2 i c q
      have stay : ∀ x, x = Z.heap.size + i → (T.heap.setIfInBounds (Z.heap.size + b) (copied cs' cd 0 0 nn))[x]? = T.heap[x]? := fun x hx' => by subst hx'; exact Array.getElem?_setIfInBounds_ne ne
      cases c with
      | inl q' =>
        obtain ⟨C, n, fl, o1, o2, ⟨cell, kk, p1, p2⟩, o4⟩ := CO
        exact ⟨C, n, fl, o1, o2, ⟨cell, kk, by rw [stay _ rfl]; exact p1, p2⟩, fun j f v hf' hv' => by obtain ⟨c1, c2, c3, c4, c5, c6, c7⟩ := o4 j f v hf' hv'; exact ⟨c1, c2, c3, c4, c5, by rw [stay _ rfl]; exact c6, c7⟩⟩
      | inr q' =>
        obtain ⟨cell, o1, o2⟩ := CO
        exact ⟨cell, ⟨by rw [stay _ rfl]; exact o1.1, o1.2⟩, o2⟩
  exact (h hL Z a0 p l e R s m args below meth c' _ _ cells slots ⟨X', hx, hZ, hw, hby, hml, hrt, hnm, hlk, hown, hR', Fr.app hFr (fun y hy => by rw [copyLocs_base hy]; exact Nat.le_add_right _ _), hr1, hr2, hr3, hr4⟩).steps st
end Copy
end Jvm.Own
namespace Jvm.Pilot.@@N@@
open Jvm Jvm.ClassFile Sem Op Lib Jvm.Free Jvm.Stand Jvm.LawKit Jvm.RoadKit Jvm.Own Bundle Jvm.Pilot.@@N@@.Jvm.D
/-! PRINTED BY gen.py: the classes, the methods, one lemma a site -/
def KT : KTab := [("com/example/occur/occur/engines/NodeList", 2, [("com/example/occur/occur/engines/NodeList", "nodes", "[I", (.array .int)), ("com/example/occur/occur/engines/NodeList", "size", "I", .int)])]
theorem kt : KOk tables_1 KT := (KOk.cons (List.mem_of_getElem? (i := 2) rfl) (fokS ⟨Or.inl (List.mem_of_getElem? (i := 11) rfl), by decide⟩ (fokS ⟨Or.inl (List.mem_of_getElem? (i := 18) rfl), by decide⟩ fok0)) (by decide) KOk.nil)
abbrev μ0 : Mth := (x, code, 10, ret)
abbrev W0 := W tables_1 KT μ0
abbrev M0 := M tables_1 KT μ0
theorem pf0 : plainFor μ0.1 = true := by first | (refine plainFor_of_name ?_; simp [plainName, overriddenIn, x]; done) | decide +kernel
theorem pd0 : parseMethodDescriptor "(IIIIII)Z" = some ⟨[.int, .int, .int, .int, .int, .int], some .boolean⟩ := by decide +kernel
abbrev μ1 : Mth := (⟨"com/example/occur/occur/engines/NodeList", "<init>", "()V"⟩, prog_20_method_1_code, 1, none)
abbrev W1 := W tables_1 KT μ1
abbrev M1 := M tables_1 KT μ1
theorem pf1 : plainFor μ1.1 = true := by first | (refine plainFor_of_name ?_; simp [plainName, overriddenIn, x]; done) | decide +kernel
theorem pd1 : parseMethodDescriptor "()V" = some ⟨[], none⟩ := by decide +kernel
abbrev μ2 : Mth := (⟨"com/example/occur/occur/engines/NodeList", "reverse", "()V"⟩, prog_20_method_7_code, 4, none)
abbrev W2 := W tables_1 KT μ2
abbrev M2 := M tables_1 KT μ2
theorem pf2 : plainFor μ2.1 = true := by first | (refine plainFor_of_name ?_; simp [plainName, overriddenIn, x]; done) | decide +kernel
abbrev μ3 : Mth := (⟨"com/example/occur/occur/engines/NodeList", "size", "()I"⟩, prog_20_method_2_code, 1, some .int)
abbrev W3 := W tables_1 KT μ3
abbrev M3 := M tables_1 KT μ3
theorem pf3 : plainFor μ3.1 = true := by first | (refine plainFor_of_name ?_; simp [plainName, overriddenIn, x]; done) | decide +kernel
theorem pd2 : parseMethodDescriptor "()I" = some ⟨[], some .int⟩ := by decide +kernel
abbrev μ4 : Mth := (⟨"com/example/occur/occur/engines/NodeList", "toArray", "()[I"⟩, prog_20_method_8_code, 1, some (.array .int))
abbrev W4 := W tables_1 KT μ4
abbrev M4 := M tables_1 KT μ4
theorem pf4 : plainFor μ4.1 = true := by first | (refine plainFor_of_name ?_; simp [plainName, overriddenIn, x]; done) | decide +kernel
theorem pd3 : parseMethodDescriptor "()[I" = some ⟨[], some (.array .int)⟩ := by decide +kernel
abbrev μ5 : Mth := (⟨"java/util/Arrays", "copyOf", "([II)[I"⟩, jdk_65_method_123_code, 3, some (.array .int))
abbrev W5 := W tables_1 KT μ5
abbrev M5 := M tables_1 KT μ5
theorem pf5 : plainFor μ5.1 = true := by first | (refine plainFor_of_name ?_; simp [plainName, overriddenIn, x]; done) | decide +kernel
theorem pd4 : parseMethodDescriptor "([II)[I" = some ⟨[(.array .int), .int], some (.array .int)⟩ := by decide +kernel
abbrev μ6 : Mth := (⟨"java/lang/Math", "min", "(II)I"⟩, jdk_29_method_69_code, 2, some .int)
abbrev W6 := W tables_1 KT μ6
abbrev M6 := M tables_1 KT μ6
theorem pf6 : plainFor μ6.1 = true := by first | (refine plainFor_of_name ?_; simp [plainName, overriddenIn, x]; done) | decide +kernel
theorem pd5 : parseMethodDescriptor "(II)I" = some ⟨[.int, .int], some .int⟩ := by decide +kernel
abbrev μ7 : Mth := (⟨"com/example/occur/occur/engines/NodeListReversePinLaw", "at", "([I[III)Z"⟩, method_3_code, 4, some .boolean)
abbrev W7 := W tables_1 KT μ7
abbrev M7 := M tables_1 KT μ7
theorem pf7 : plainFor μ7.1 = true := by first | (refine plainFor_of_name ?_; simp [plainName, overriddenIn, x]; done) | decide +kernel
theorem pd6 : parseMethodDescriptor "([I[III)Z" = some ⟨[(.array .int), (.array .int), .int, .int], some .boolean⟩ := by decide +kernel
abbrev μ8 : Mth := (⟨"com/example/occur/occur/engines/NodeList", "add", "(I)V"⟩, prog_20_method_5_code, 2, none)
abbrev W8 := W tables_1 KT μ8
abbrev M8 := M tables_1 KT μ8
theorem pf8 : plainFor μ8.1 = true := by first | (refine plainFor_of_name ?_; simp [plainName, overriddenIn, x]; done) | decide +kernel
theorem pd7 : parseMethodDescriptor "(I)V" = some ⟨[.int], none⟩ := by decide +kernel
theorem e0 {rm : Room} {H : AHeap} {Q : Option Value → AHeap → Prop} {a0 : Int32} {a1 : Int32} {a2 : Int32} {a3 : Int32} {a4 : Int32} {a5 : Int32} (h : W0 rm 0 [.val (.int a0), .val (.int a1), .val (.int a2), .val (.int a3), .val (.int a4), .val (.int a5), .unset, .unset, .unset, .unset] [] H Q) : M0 rm [.int a0, .int a1, .int a2, .int a3, .int a4, .int a5] H Q := M.of pf0 rfl rfl h
theorem e0L {rm : Room} {H : AHeap} {Q : Option Value → AHeap → Prop} {L : List Slot} {as : List Value} (h : W0 rm 0 L [] H Q) (hl : ent as ++ List.replicate (10 - (ent as).length) .unset = L := by rfl) (hn : L.length = 10 := by rfl) : M0 rm as H Q := M.of pf0 hl hn h
theorem s0_0 {rm : Room} {S : List Value} {H : AHeap} {Q : Option Value → AHeap → Prop} {l1 l2 l3 l4 l5 l6 l7 l8 l9 : Slot} {x : Int32} (h : W0 rm 1 [.val (.int x), l1, l2, l3, l4, l5, l6, l7, l8, l9] (.int x :: S) (H) Q) : W0 rm 0 [.val (.int x), l1, l2, l3, l4, l5, l6, l7, l8, l9] (S) H Q := W.iload_n at_0 rfl h
theorem s0_1 {rm : Room} {S : List Value} {H : AHeap} {Q : Option Value → AHeap → Prop} {l0 l1 l2 l3 l4 l5 l6 l7 l8 l9 : Slot}  (h : W0 rm 3 [l0, l1, l2, l3, l4, l5, l6, l7, l8, l9] (.int 7 :: S) (H) Q) : W0 rm 1 [l0, l1, l2, l3, l4, l5, l6, l7, l8, l9] (S) H Q := W.bipush' at_1 (by decide) h
theorem s0_3 {rm : Room} {S : List Value} {H : AHeap} {Q : Option Value → AHeap → Prop} {l0 l1 l2 l3 l4 l5 l6 l7 l8 l9 : Slot} {x y : Int32} (h : W0 rm 4 [l0, l1, l2, l3, l4, l5, l6, l7, l8, l9] (.int (x &&& y) :: S) (H) Q) : W0 rm 3 [l0, l1, l2, l3, l4, l5, l6, l7, l8, l9] (.int y :: .int x :: S) H Q := W.iand at_3 h
theorem s0_4 {rm : Room} {S : List Value} {H : AHeap} {Q : Option Value → AHeap → Prop} {l0 l1 l2 l3 l4 l5 l6 l7 l8 l9 : Slot}  (h : W0 rm 6 [l0, l1, l2, l3, l4, l5, l6, l7, l8, l9] (.int 6 :: S) (H) Q) : W0 rm 4 [l0, l1, l2, l3, l4, l5, l6, l7, l8, l9] (S) H Q := W.bipush' at_4 (by decide) h
theorem s0_6 {rm : Room} {S : List Value} {H : AHeap} {Q : Option Value → AHeap → Prop} {l0 l1 l2 l3 l4 l5 l6 l7 l8 l9 : Slot} {x y : Int32} (hy : y ≠ 0) (h : W0 rm 7 [l0, l1, l2, l3, l4, l5, l6, l7, l8, l9] (.int (x % y) :: S) (H) Q) : W0 rm 6 [l0, l1, l2, l3, l4, l5, l6, l7, l8, l9] (.int y :: .int x :: S) H Q := W.irem at_6 hy h
theorem s0_7 {rm : Room} {S : List Value} {H : AHeap} {Q : Option Value → AHeap → Prop} {l0 l1 l2 l3 l4 l5 l6 l7 l8 l9 : Slot} {x : Int32} (ho : one l6 = true) (h : W0 rm 9 [l0, l1, l2, l3, l4, l5, .val (.int x), l7, l8, l9] (S) (H) Q) : W0 rm 7 [l0, l1, l2, l3, l4, l5, l6, l7, l8, l9] (.int x :: S) H Q := W.istore at_7 rfl ho h
theorem s0_7w {rm : Room} {S : List Value} {H : AHeap} {Q : Option Value → AHeap → Prop} {l0 l1 l2 l3 l4 l5 l7 l8 l9 : Slot} {w : Value} {x : Int32} (ho : w.category = 2) (h : W0 rm 9 [l0, l1, l2, l3, l4, l5, .val (.int x), .unset, l8, l9] (S) (H) Q) : W0 rm 7 [l0, l1, l2, l3, l4, l5, .val w, l7, l8, l9] (.int x :: S) H Q := W.istoreW at_7 rfl ho (Nat.le_of_ble_eq_true rfl) h
theorem s0_7s {rm : Room} {S : List Value} {H : AHeap} {Q : Option Value → AHeap → Prop} {l0 l1 l2 l3 l4 l5 l7 l8 l9 : Slot} {x : Int32} (h : W0 rm 9 [l0, l1, l2, l3, l4, .unset, .val (.int x), l7, l8, l9] (S) (H) Q) : W0 rm 7 [l0, l1, l2, l3, l4, l5, .second, l7, l8, l9] (.int x :: S) H Q := W.istoreS at_7 rfl (by decide) h
theorem s0_9 {rm : Room} {S : List Value} {H : AHeap} {Q : Option Value → AHeap → Prop} {l0 l1 l2 l3 l4 l5 l6 l7 l8 l9 : Slot}  (h : W0 rm 10 [l0, l1, l2, l3, l4, l5, l6, l7, l8, l9] (.int 5 :: S) (H) Q) : W0 rm 9 [l0, l1, l2, l3, l4, l5, l6, l7, l8, l9] (S) H Q := W.iconst' at_9 (by decide) h
theorem s0_10 {rm : Room} {S : List Value} {H : AHeap} {Q : Option Value → AHeap → Prop} {l0 l1 l2 l3 l4 l5 l6 l7 l8 l9 : Slot} {n : Int32} (i N : Nat) (hn : ix n N) (hi : H.length = i) (hr : nok rm N = true) (h : W0 ⟨rm.frames, rm.cells - 1, rm.slots - N, rm.locals⟩ 12 [l0, l1, l2, l3, l4, l5, l6, l7, l8, l9] (.ref i :: S) (H ++ [.inr (.int, List.replicate N (.int 0))]) Q) : W0 rm 10 [l0, l1, l2, l3, l4, l5, l6, l7, l8, l9] (.int n :: S) H Q := W.newarray (ty := .int) (d := .int 0) at_10 rfl (List.mem_of_getElem? (i := 0) rfl) rfl hn hi hr h
theorem s0_12 {rm : Room} {S : List Value} {H : AHeap} {Q : Option Value → AHeap → Prop} {l0 l1 l2 l3 l4 l5 l6 l7 l8 l9 : Slot} {v : Value} (hc : v.category = 1) (h : W0 rm 13 [l0, l1, l2, l3, l4, l5, l6, l7, l8, l9] (v :: v :: S) (H) Q) : W0 rm 12 [l0, l1, l2, l3, l4, l5, l6, l7, l8, l9] (v :: S) H Q := W.dup at_12 hc h
theorem s0_13 {rm : Room} {S : List Value} {H : AHeap} {Q : Option Value → AHeap → Prop} {l0 l1 l2 l3 l4 l5 l6 l7 l8 l9 : Slot}  (h : W0 rm 14 [l0, l1, l2, l3, l4, l5, l6, l7, l8, l9] (.int 0 :: S) (H) Q) : W0 rm 13 [l0, l1, l2, l3, l4, l5, l6, l7, l8, l9] (S) H Q := W.iconst' at_13 (by decide) h
theorem s0_14 {rm : Room} {S : List Value} {H : AHeap} {Q : Option Value → AHeap → Prop} {l0 l2 l3 l4 l5 l6 l7 l8 l9 : Slot} {x : Int32} (h : W0 rm 15 [l0, .val (.int x), l2, l3, l4, l5, l6, l7, l8, l9] (.int x :: S) (H) Q) : W0 rm 14 [l0, .val (.int x), l2, l3, l4, l5, l6, l7, l8, l9] (S) H Q := W.iload_n at_14 rfl h
theorem s0_15 {rm : Room} {S : List Value} {H : AHeap} {Q : Option Value → AHeap → Prop} {l0 l1 l2 l3 l4 l5 l6 l7 l8 l9 : Slot} {i : Nat} {j : Int32} {x : Int32} {vs : List Value} (N : Nat) (hH : H[i]? = some (.inr (.int, vs))) (hj : ix j N) (hl : Nat.blt N vs.length = true) (h : W0 rm 16 [l0, l1, l2, l3, l4, l5, l6, l7, l8, l9] (S) (H.set i (.inr (.int, vs.set N (.int x)))) Q) : W0 rm 15 [l0, l1, l2, l3, l4, l5, l6, l7, l8, l9] (.int x :: .int j :: .ref i :: S) H Q := W.iastore at_15 hH hj hl h
theorem s0_16 {rm : Room} {S : List Value} {H : AHeap} {Q : Option Value → AHeap → Prop} {l0 l1 l2 l3 l4 l5 l6 l7 l8 l9 : Slot} {v : Value} (hc : v.category = 1) (h : W0 rm 17 [l0, l1, l2, l3, l4, l5, l6, l7, l8, l9] (v :: v :: S) (H) Q) : W0 rm 16 [l0, l1, l2, l3, l4, l5, l6, l7, l8, l9] (v :: S) H Q := W.dup at_16 hc h
theorem s0_17 {rm : Room} {S : List Value} {H : AHeap} {Q : Option Value → AHeap → Prop} {l0 l1 l2 l3 l4 l5 l6 l7 l8 l9 : Slot}  (h : W0 rm 18 [l0, l1, l2, l3, l4, l5, l6, l7, l8, l9] (.int 1 :: S) (H) Q) : W0 rm 17 [l0, l1, l2, l3, l4, l5, l6, l7, l8, l9] (S) H Q := W.iconst' at_17 (by decide) h
theorem s0_18 {rm : Room} {S : List Value} {H : AHeap} {Q : Option Value → AHeap → Prop} {l0 l1 l3 l4 l5 l6 l7 l8 l9 : Slot} {x : Int32} (h : W0 rm 19 [l0, l1, .val (.int x), l3, l4, l5, l6, l7, l8, l9] (.int x :: S) (H) Q) : W0 rm 18 [l0, l1, .val (.int x), l3, l4, l5, l6, l7, l8, l9] (S) H Q := W.iload_n at_18 rfl h
theorem s0_19 {rm : Room} {S : List Value} {H : AHeap} {Q : Option Value → AHeap → Prop} {l0 l1 l2 l3 l4 l5 l6 l7 l8 l9 : Slot} {i : Nat} {j : Int32} {x : Int32} {vs : List Value} (N : Nat) (hH : H[i]? = some (.inr (.int, vs))) (hj : ix j N) (hl : Nat.blt N vs.length = true) (h : W0 rm 20 [l0, l1, l2, l3, l4, l5, l6, l7, l8, l9] (S) (H.set i (.inr (.int, vs.set N (.int x)))) Q) : W0 rm 19 [l0, l1, l2, l3, l4, l5, l6, l7, l8, l9] (.int x :: .int j :: .ref i :: S) H Q := W.iastore at_19 hH hj hl h
theorem s0_20 {rm : Room} {S : List Value} {H : AHeap} {Q : Option Value → AHeap → Prop} {l0 l1 l2 l3 l4 l5 l6 l7 l8 l9 : Slot} {v : Value} (hc : v.category = 1) (h : W0 rm 21 [l0, l1, l2, l3, l4, l5, l6, l7, l8, l9] (v :: v :: S) (H) Q) : W0 rm 20 [l0, l1, l2, l3, l4, l5, l6, l7, l8, l9] (v :: S) H Q := W.dup at_20 hc h
theorem s0_21 {rm : Room} {S : List Value} {H : AHeap} {Q : Option Value → AHeap → Prop} {l0 l1 l2 l3 l4 l5 l6 l7 l8 l9 : Slot}  (h : W0 rm 22 [l0, l1, l2, l3, l4, l5, l6, l7, l8, l9] (.int 2 :: S) (H) Q) : W0 rm 21 [l0, l1, l2, l3, l4, l5, l6, l7, l8, l9] (S) H Q := W.iconst' at_21 (by decide) h
theorem s0_22 {rm : Room} {S : List Value} {H : AHeap} {Q : Option Value → AHeap → Prop} {l0 l1 l2 l4 l5 l6 l7 l8 l9 : Slot} {x : Int32} (h : W0 rm 23 [l0, l1, l2, .val (.int x), l4, l5, l6, l7, l8, l9] (.int x :: S) (H) Q) : W0 rm 22 [l0, l1, l2, .val (.int x), l4, l5, l6, l7, l8, l9] (S) H Q := W.iload_n at_22 rfl h
theorem s0_23 {rm : Room} {S : List Value} {H : AHeap} {Q : Option Value → AHeap → Prop} {l0 l1 l2 l3 l4 l5 l6 l7 l8 l9 : Slot} {i : Nat} {j : Int32} {x : Int32} {vs : List Value} (N : Nat) (hH : H[i]? = some (.inr (.int, vs))) (hj : ix j N) (hl : Nat.blt N vs.length = true) (h : W0 rm 24 [l0, l1, l2, l3, l4, l5, l6, l7, l8, l9] (S) (H.set i (.inr (.int, vs.set N (.int x)))) Q) : W0 rm 23 [l0, l1, l2, l3, l4, l5, l6, l7, l8, l9] (.int x :: .int j :: .ref i :: S) H Q := W.iastore at_23 hH hj hl h
theorem s0_24 {rm : Room} {S : List Value} {H : AHeap} {Q : Option Value → AHeap → Prop} {l0 l1 l2 l3 l4 l5 l6 l7 l8 l9 : Slot} {v : Value} (hc : v.category = 1) (h : W0 rm 25 [l0, l1, l2, l3, l4, l5, l6, l7, l8, l9] (v :: v :: S) (H) Q) : W0 rm 24 [l0, l1, l2, l3, l4, l5, l6, l7, l8, l9] (v :: S) H Q := W.dup at_24 hc h
theorem s0_25 {rm : Room} {S : List Value} {H : AHeap} {Q : Option Value → AHeap → Prop} {l0 l1 l2 l3 l4 l5 l6 l7 l8 l9 : Slot}  (h : W0 rm 26 [l0, l1, l2, l3, l4, l5, l6, l7, l8, l9] (.int 3 :: S) (H) Q) : W0 rm 25 [l0, l1, l2, l3, l4, l5, l6, l7, l8, l9] (S) H Q := W.iconst' at_25 (by decide) h
theorem s0_26 {rm : Room} {S : List Value} {H : AHeap} {Q : Option Value → AHeap → Prop} {l0 l1 l2 l3 l5 l6 l7 l8 l9 : Slot} {x : Int32} (h : W0 rm 28 [l0, l1, l2, l3, .val (.int x), l5, l6, l7, l8, l9] (.int x :: S) (H) Q) : W0 rm 26 [l0, l1, l2, l3, .val (.int x), l5, l6, l7, l8, l9] (S) H Q := W.iload at_26 rfl h
theorem s0_28 {rm : Room} {S : List Value} {H : AHeap} {Q : Option Value → AHeap → Prop} {l0 l1 l2 l3 l4 l5 l6 l7 l8 l9 : Slot} {i : Nat} {j : Int32} {x : Int32} {vs : List Value} (N : Nat) (hH : H[i]? = some (.inr (.int, vs))) (hj : ix j N) (hl : Nat.blt N vs.length = true) (h : W0 rm 29 [l0, l1, l2, l3, l4, l5, l6, l7, l8, l9] (S) (H.set i (.inr (.int, vs.set N (.int x)))) Q) : W0 rm 28 [l0, l1, l2, l3, l4, l5, l6, l7, l8, l9] (.int x :: .int j :: .ref i :: S) H Q := W.iastore at_28 hH hj hl h
theorem s0_29 {rm : Room} {S : List Value} {H : AHeap} {Q : Option Value → AHeap → Prop} {l0 l1 l2 l3 l4 l5 l6 l7 l8 l9 : Slot} {v : Value} (hc : v.category = 1) (h : W0 rm 30 [l0, l1, l2, l3, l4, l5, l6, l7, l8, l9] (v :: v :: S) (H) Q) : W0 rm 29 [l0, l1, l2, l3, l4, l5, l6, l7, l8, l9] (v :: S) H Q := W.dup at_29 hc h
theorem s0_30 {rm : Room} {S : List Value} {H : AHeap} {Q : Option Value → AHeap → Prop} {l0 l1 l2 l3 l4 l5 l6 l7 l8 l9 : Slot}  (h : W0 rm 31 [l0, l1, l2, l3, l4, l5, l6, l7, l8, l9] (.int 4 :: S) (H) Q) : W0 rm 30 [l0, l1, l2, l3, l4, l5, l6, l7, l8, l9] (S) H Q := W.iconst' at_30 (by decide) h
theorem s0_31 {rm : Room} {S : List Value} {H : AHeap} {Q : Option Value → AHeap → Prop} {l0 l1 l2 l3 l4 l6 l7 l8 l9 : Slot} {x : Int32} (h : W0 rm 33 [l0, l1, l2, l3, l4, .val (.int x), l6, l7, l8, l9] (.int x :: S) (H) Q) : W0 rm 31 [l0, l1, l2, l3, l4, .val (.int x), l6, l7, l8, l9] (S) H Q := W.iload at_31 rfl h
theorem s0_33 {rm : Room} {S : List Value} {H : AHeap} {Q : Option Value → AHeap → Prop} {l0 l1 l2 l3 l4 l5 l6 l7 l8 l9 : Slot} {i : Nat} {j : Int32} {x : Int32} {vs : List Value} (N : Nat) (hH : H[i]? = some (.inr (.int, vs))) (hj : ix j N) (hl : Nat.blt N vs.length = true) (h : W0 rm 34 [l0, l1, l2, l3, l4, l5, l6, l7, l8, l9] (S) (H.set i (.inr (.int, vs.set N (.int x)))) Q) : W0 rm 33 [l0, l1, l2, l3, l4, l5, l6, l7, l8, l9] (.int x :: .int j :: .ref i :: S) H Q := W.iastore at_33 hH hj hl h
theorem s0_34 {rm : Room} {S : List Value} {H : AHeap} {Q : Option Value → AHeap → Prop} {l0 l1 l2 l3 l4 l5 l6 l7 l8 l9 : Slot} {i : Nat} (ho : one l7 = true) (h : W0 rm 36 [l0, l1, l2, l3, l4, l5, l6, .val (.ref i), l8, l9] (S) (H) Q) : W0 rm 34 [l0, l1, l2, l3, l4, l5, l6, l7, l8, l9] (.ref i :: S) H Q := W.astore at_34 rfl ho rfl h
theorem s0_36 {rm : Room} {S : List Value} {H : AHeap} {Q : Option Value → AHeap → Prop} {l0 l1 l2 l3 l4 l5 l6 l7 l8 l9 : Slot} (i : Nat) (hi : H.length = i) (hr : nok rm 2 = true) (h : W0 ⟨rm.frames, rm.cells - 1, rm.slots - 2, rm.locals⟩ 39 [l0, l1, l2, l3, l4, l5, l6, l7, l8, l9] (.ref i :: S) (H ++ [.inl (0, [.null, .int 0])]) Q) : W0 rm 36 [l0, l1, l2, l3, l4, l5, l6, l7, l8, l9] (S) H Q := W.new (c := 0) kt at_36 (List.mem_of_getElem? (i := 1) rfl) (List.mem_of_getElem? (i := 3) rfl) rfl hi hr h
theorem s0_39 {rm : Room} {S : List Value} {H : AHeap} {Q : Option Value → AHeap → Prop} {l0 l1 l2 l3 l4 l5 l6 l7 l8 l9 : Slot} {v : Value} (hc : v.category = 1) (h : W0 rm 40 [l0, l1, l2, l3, l4, l5, l6, l7, l8, l9] (v :: v :: S) (H) Q) : W0 rm 39 [l0, l1, l2, l3, l4, l5, l6, l7, l8, l9] (v :: S) H Q := W.dup at_39 hc h
theorem s0_40 {rm : Room} {S : List Value} {H : AHeap} {Q : Option Value → AHeap → Prop} {l0 l1 l2 l3 l4 l5 l6 l7 l8 l9 : Slot} {rm' : Room} {H' : AHeap} {i : Nat}   (hM : M1 rm' [.ref i] H (Is none H')) (hr : rok rm rm' 1 S = true) (h : W0 (less rm rm') 43 [l0, l1, l2, l3, l4, l5, l6, l7, l8, l9] (S) H' Q) : W0 rm 40 [l0, l1, l2, l3, l4, l5, l6, l7, l8, l9] (.ref i :: S) H Q := W.callI (S := S) (as := []) (rm' := rm') at_40 rfl rfl (List.mem_of_getElem? (i := 4) rfl) (List.mem_of_getElem? (i := 5) rfl) (List.mem_of_getElem? (i := 3) rfl) (List.mem_of_getElem? (i := 6) rfl) (by decide) pd1 rfl rfl hM hr (fun _ _ q => by obtain ⟨rfl, rfl⟩ := q; exact h)
theorem s0_40q {rm : Room} {S : List Value} {H : AHeap} {Q : Option Value → AHeap → Prop} {l0 l1 l2 l3 l4 l5 l6 l7 l8 l9 : Slot} {rm' : Room} {Q' : Option Value → AHeap → Prop} {i : Nat}  (hM : M1 rm' [.ref i] H Q') (hr : rok rm rm' 1 S = true) (h : ∀ v H', Q' v H' → W0 (less rm rm') 43 [l0, l1, l2, l3, l4, l5, l6, l7, l8, l9] (v.toList ++ S) H' Q) : W0 rm 40 [l0, l1, l2, l3, l4, l5, l6, l7, l8, l9] (.ref i :: S) H Q := W.callI (S := S) (as := []) (rm' := rm') at_40 rfl rfl (List.mem_of_getElem? (i := 4) rfl) (List.mem_of_getElem? (i := 5) rfl) (List.mem_of_getElem? (i := 3) rfl) (List.mem_of_getElem? (i := 6) rfl) (by decide) pd1 rfl rfl hM hr h
theorem s0_43 {rm : Room} {S : List Value} {H : AHeap} {Q : Option Value → AHeap → Prop} {l0 l1 l2 l3 l4 l5 l6 l7 l8 l9 : Slot} {i : Nat} (ho : one l8 = true) (h : W0 rm 45 [l0, l1, l2, l3, l4, l5, l6, l7, .val (.ref i), l9] (S) (H) Q) : W0 rm 43 [l0, l1, l2, l3, l4, l5, l6, l7, l8, l9] (.ref i :: S) H Q := W.astore at_43 rfl ho rfl h
theorem s0_45 {rm : Room} {S : List Value} {H : AHeap} {Q : Option Value → AHeap → Prop} {l0 l1 l2 l3 l4 l5 l7 l8 l9 : Slot} {x : Int32} (h : W0 rm 47 [l0, l1, l2, l3, l4, l5, .val (.int x), l7, l8, l9] (.int x :: S) (H) Q) : W0 rm 45 [l0, l1, l2, l3, l4, l5, .val (.int x), l7, l8, l9] (S) H Q := W.iload at_45 rfl h
theorem s0_47 {rm : Room} {S : List Value} {H : AHeap} {Q : Option Value → AHeap → Prop} {l0 l1 l2 l3 l4 l5 l6 l7 l8 l9 : Slot} {x : Int32} (h1 : ¬ 0 < x → W0 rm 56 [l0, l1, l2, l3, l4, l5, l6, l7, l8, l9] S H Q) (h2 : 0 < x → W0 rm 50 [l0, l1, l2, l3, l4, l5, l6, l7, l8, l9] S H Q) : W0 rm 47 [l0, l1, l2, l3, l4, l5, l6, l7, l8, l9] (.int x :: S) H Q := W.ifc at_47 (by decide) (by decide) h1 h2
theorem s0_50 {rm : Room} {S : List Value} {H : AHeap} {Q : Option Value → AHeap → Prop} {l0 l1 l2 l3 l4 l5 l6 l7 l9 : Slot} {i : Nat} (h : W0 rm 52 [l0, l1, l2, l3, l4, l5, l6, l7, .val (.ref i), l9] (.ref i :: S) (H) Q) : W0 rm 50 [l0, l1, l2, l3, l4, l5, l6, l7, .val (.ref i), l9] (S) H Q := W.aload at_50 rfl rfl h
theorem s0_50n {rm : Room} {S : List Value} {H : AHeap} {Q : Option Value → AHeap → Prop} {l0 l1 l2 l3 l4 l5 l6 l7 l9 : Slot}  (h : W0 rm 52 [l0, l1, l2, l3, l4, l5, l6, l7, .val .null, l9] (.null :: S) (H) Q) : W0 rm 50 [l0, l1, l2, l3, l4, l5, l6, l7, .val .null, l9] (S) H Q := W.aload at_50 rfl rfl h
theorem s0_52 {rm : Room} {S : List Value} {H : AHeap} {Q : Option Value → AHeap → Prop} {l0 l2 l3 l4 l5 l6 l7 l8 l9 : Slot} {x : Int32} (h : W0 rm 53 [l0, .val (.int x), l2, l3, l4, l5, l6, l7, l8, l9] (.int x :: S) (H) Q) : W0 rm 52 [l0, .val (.int x), l2, l3, l4, l5, l6, l7, l8, l9] (S) H Q := W.iload_n at_52 rfl h
theorem s0_53 {rm : Room} {S : List Value} {H : AHeap} {Q : Option Value → AHeap → Prop} {l0 l1 l2 l3 l4 l5 l6 l7 l8 l9 : Slot} {rm' : Room} {H' : AHeap} {i : Nat} {vs : List Value} {a0 : Int32}  (hH : H[i]? = some (.inl (0, vs))) (hM : M8 rm' [.ref i, .int a0] H (Is none H')) (hr : rok rm rm' 2 S = true) (h : W0 (less rm rm') 56 [l0, l1, l2, l3, l4, l5, l6, l7, l8, l9] (S) H' Q) : W0 rm 53 [l0, l1, l2, l3, l4, l5, l6, l7, l8, l9] (.int a0 :: .ref i :: S) H Q := W.callV (c := 0) (S := S) (as := [.int a0]) (rm' := rm') at_53 (List.mem_of_getElem? (i := 45) rfl) (List.mem_of_getElem? (i := 46) rfl) (List.mem_of_getElem? (i := 48) rfl) (Or.inl rfl) kt (List.mem_of_getElem? (i := 47) rfl) (List.mem_of_getElem? (i := 3) rfl) (List.mem_of_getElem? (i := 49) rfl) (by decide) rfl pd7 rfl rfl hH hM hr (fun _ _ q => by obtain ⟨rfl, rfl⟩ := q; exact h)
theorem s0_53q {rm : Room} {S : List Value} {H : AHeap} {Q : Option Value → AHeap → Prop} {l0 l1 l2 l3 l4 l5 l6 l7 l8 l9 : Slot} {rm' : Room} {Q' : Option Value → AHeap → Prop} {i : Nat} {vs : List Value} {a0 : Value} (hH : H[i]? = some (.inl (0, vs))) (hM : M8 rm' [.ref i, a0] H Q') (hr : rok rm rm' 2 S = true) (h : ∀ v H', Q' v H' → W0 (less rm rm') 56 [l0, l1, l2, l3, l4, l5, l6, l7, l8, l9] (v.toList ++ S) H' Q) : W0 rm 53 [l0, l1, l2, l3, l4, l5, l6, l7, l8, l9] (a0 :: .ref i :: S) H Q := W.callV (c := 0) (S := S) (as := [a0]) (rm' := rm') at_53 (List.mem_of_getElem? (i := 45) rfl) (List.mem_of_getElem? (i := 46) rfl) (List.mem_of_getElem? (i := 48) rfl) (Or.inl rfl) kt (List.mem_of_getElem? (i := 47) rfl) (List.mem_of_getElem? (i := 3) rfl) (List.mem_of_getElem? (i := 49) rfl) (by decide) rfl pd7 rfl rfl hH hM hr h
theorem s0_56 {rm : Room} {S : List Value} {H : AHeap} {Q : Option Value → AHeap → Prop} {l0 l1 l2 l3 l4 l5 l7 l8 l9 : Slot} {x : Int32} (h : W0 rm 58 [l0, l1, l2, l3, l4, l5, .val (.int x), l7, l8, l9] (.int x :: S) (H) Q) : W0 rm 56 [l0, l1, l2, l3, l4, l5, .val (.int x), l7, l8, l9] (S) H Q := W.iload at_56 rfl h
theorem s0_58 {rm : Room} {S : List Value} {H : AHeap} {Q : Option Value → AHeap → Prop} {l0 l1 l2 l3 l4 l5 l6 l7 l8 l9 : Slot}  (h : W0 rm 59 [l0, l1, l2, l3, l4, l5, l6, l7, l8, l9] (.int 1 :: S) (H) Q) : W0 rm 58 [l0, l1, l2, l3, l4, l5, l6, l7, l8, l9] (S) H Q := W.iconst' at_58 (by decide) h
theorem s0_59 {rm : Room} {S : List Value} {H : AHeap} {Q : Option Value → AHeap → Prop} {l0 l1 l2 l3 l4 l5 l6 l7 l8 l9 : Slot} {x y : Int32} (h1 : ¬ y < x → W0 rm 68 [l0, l1, l2, l3, l4, l5, l6, l7, l8, l9] S H Q) (h2 : y < x → W0 rm 62 [l0, l1, l2, l3, l4, l5, l6, l7, l8, l9] S H Q) : W0 rm 59 [l0, l1, l2, l3, l4, l5, l6, l7, l8, l9] (.int y :: .int x :: S) H Q := W.icmp at_59 (by decide) (by decide) h1 h2
theorem s0_62 {rm : Room} {S : List Value} {H : AHeap} {Q : Option Value → AHeap → Prop} {l0 l1 l2 l3 l4 l5 l6 l7 l9 : Slot} {i : Nat} (h : W0 rm 64 [l0, l1, l2, l3, l4, l5, l6, l7, .val (.ref i), l9] (.ref i :: S) (H) Q) : W0 rm 62 [l0, l1, l2, l3, l4, l5, l6, l7, .val (.ref i), l9] (S) H Q := W.aload at_62 rfl rfl h
theorem s0_62n {rm : Room} {S : List Value} {H : AHeap} {Q : Option Value → AHeap → Prop} {l0 l1 l2 l3 l4 l5 l6 l7 l9 : Slot}  (h : W0 rm 64 [l0, l1, l2, l3, l4, l5, l6, l7, .val .null, l9] (.null :: S) (H) Q) : W0 rm 62 [l0, l1, l2, l3, l4, l5, l6, l7, .val .null, l9] (S) H Q := W.aload at_62 rfl rfl h
theorem s0_64 {rm : Room} {S : List Value} {H : AHeap} {Q : Option Value → AHeap → Prop} {l0 l1 l3 l4 l5 l6 l7 l8 l9 : Slot} {x : Int32} (h : W0 rm 65 [l0, l1, .val (.int x), l3, l4, l5, l6, l7, l8, l9] (.int x :: S) (H) Q) : W0 rm 64 [l0, l1, .val (.int x), l3, l4, l5, l6, l7, l8, l9] (S) H Q := W.iload_n at_64 rfl h
theorem s0_65 {rm : Room} {S : List Value} {H : AHeap} {Q : Option Value → AHeap → Prop} {l0 l1 l2 l3 l4 l5 l6 l7 l8 l9 : Slot} {rm' : Room} {H' : AHeap} {i : Nat} {vs : List Value} {a0 : Int32}  (hH : H[i]? = some (.inl (0, vs))) (hM : M8 rm' [.ref i, .int a0] H (Is none H')) (hr : rok rm rm' 2 S = true) (h : W0 (less rm rm') 68 [l0, l1, l2, l3, l4, l5, l6, l7, l8, l9] (S) H' Q) : W0 rm 65 [l0, l1, l2, l3, l4, l5, l6, l7, l8, l9] (.int a0 :: .ref i :: S) H Q := W.callV (c := 0) (S := S) (as := [.int a0]) (rm' := rm') at_65 (List.mem_of_getElem? (i := 45) rfl) (List.mem_of_getElem? (i := 46) rfl) (List.mem_of_getElem? (i := 48) rfl) (Or.inl rfl) kt (List.mem_of_getElem? (i := 47) rfl) (List.mem_of_getElem? (i := 3) rfl) (List.mem_of_getElem? (i := 49) rfl) (by decide) rfl pd7 rfl rfl hH hM hr (fun _ _ q => by obtain ⟨rfl, rfl⟩ := q; exact h)
theorem s0_65q {rm : Room} {S : List Value} {H : AHeap} {Q : Option Value → AHeap → Prop} {l0 l1 l2 l3 l4 l5 l6 l7 l8 l9 : Slot} {rm' : Room} {Q' : Option Value → AHeap → Prop} {i : Nat} {vs : List Value} {a0 : Value} (hH : H[i]? = some (.inl (0, vs))) (hM : M8 rm' [.ref i, a0] H Q') (hr : rok rm rm' 2 S = true) (h : ∀ v H', Q' v H' → W0 (less rm rm') 68 [l0, l1, l2, l3, l4, l5, l6, l7, l8, l9] (v.toList ++ S) H' Q) : W0 rm 65 [l0, l1, l2, l3, l4, l5, l6, l7, l8, l9] (a0 :: .ref i :: S) H Q := W.callV (c := 0) (S := S) (as := [a0]) (rm' := rm') at_65 (List.mem_of_getElem? (i := 45) rfl) (List.mem_of_getElem? (i := 46) rfl) (List.mem_of_getElem? (i := 48) rfl) (Or.inl rfl) kt (List.mem_of_getElem? (i := 47) rfl) (List.mem_of_getElem? (i := 3) rfl) (List.mem_of_getElem? (i := 49) rfl) (by decide) rfl pd7 rfl rfl hH hM hr h
theorem s0_68 {rm : Room} {S : List Value} {H : AHeap} {Q : Option Value → AHeap → Prop} {l0 l1 l2 l3 l4 l5 l7 l8 l9 : Slot} {x : Int32} (h : W0 rm 70 [l0, l1, l2, l3, l4, l5, .val (.int x), l7, l8, l9] (.int x :: S) (H) Q) : W0 rm 68 [l0, l1, l2, l3, l4, l5, .val (.int x), l7, l8, l9] (S) H Q := W.iload at_68 rfl h
theorem s0_70 {rm : Room} {S : List Value} {H : AHeap} {Q : Option Value → AHeap → Prop} {l0 l1 l2 l3 l4 l5 l6 l7 l8 l9 : Slot}  (h : W0 rm 71 [l0, l1, l2, l3, l4, l5, l6, l7, l8, l9] (.int 2 :: S) (H) Q) : W0 rm 70 [l0, l1, l2, l3, l4, l5, l6, l7, l8, l9] (S) H Q := W.iconst' at_70 (by decide) h
theorem s0_71 {rm : Room} {S : List Value} {H : AHeap} {Q : Option Value → AHeap → Prop} {l0 l1 l2 l3 l4 l5 l6 l7 l8 l9 : Slot} {x y : Int32} (h1 : ¬ y < x → W0 rm 80 [l0, l1, l2, l3, l4, l5, l6, l7, l8, l9] S H Q) (h2 : y < x → W0 rm 74 [l0, l1, l2, l3, l4, l5, l6, l7, l8, l9] S H Q) : W0 rm 71 [l0, l1, l2, l3, l4, l5, l6, l7, l8, l9] (.int y :: .int x :: S) H Q := W.icmp at_71 (by decide) (by decide) h1 h2
theorem s0_74 {rm : Room} {S : List Value} {H : AHeap} {Q : Option Value → AHeap → Prop} {l0 l1 l2 l3 l4 l5 l6 l7 l9 : Slot} {i : Nat} (h : W0 rm 76 [l0, l1, l2, l3, l4, l5, l6, l7, .val (.ref i), l9] (.ref i :: S) (H) Q) : W0 rm 74 [l0, l1, l2, l3, l4, l5, l6, l7, .val (.ref i), l9] (S) H Q := W.aload at_74 rfl rfl h
theorem s0_74n {rm : Room} {S : List Value} {H : AHeap} {Q : Option Value → AHeap → Prop} {l0 l1 l2 l3 l4 l5 l6 l7 l9 : Slot}  (h : W0 rm 76 [l0, l1, l2, l3, l4, l5, l6, l7, .val .null, l9] (.null :: S) (H) Q) : W0 rm 74 [l0, l1, l2, l3, l4, l5, l6, l7, .val .null, l9] (S) H Q := W.aload at_74 rfl rfl h
theorem s0_76 {rm : Room} {S : List Value} {H : AHeap} {Q : Option Value → AHeap → Prop} {l0 l1 l2 l4 l5 l6 l7 l8 l9 : Slot} {x : Int32} (h : W0 rm 77 [l0, l1, l2, .val (.int x), l4, l5, l6, l7, l8, l9] (.int x :: S) (H) Q) : W0 rm 76 [l0, l1, l2, .val (.int x), l4, l5, l6, l7, l8, l9] (S) H Q := W.iload_n at_76 rfl h
theorem s0_77 {rm : Room} {S : List Value} {H : AHeap} {Q : Option Value → AHeap → Prop} {l0 l1 l2 l3 l4 l5 l6 l7 l8 l9 : Slot} {rm' : Room} {H' : AHeap} {i : Nat} {vs : List Value} {a0 : Int32}  (hH : H[i]? = some (.inl (0, vs))) (hM : M8 rm' [.ref i, .int a0] H (Is none H')) (hr : rok rm rm' 2 S = true) (h : W0 (less rm rm') 80 [l0, l1, l2, l3, l4, l5, l6, l7, l8, l9] (S) H' Q) : W0 rm 77 [l0, l1, l2, l3, l4, l5, l6, l7, l8, l9] (.int a0 :: .ref i :: S) H Q := W.callV (c := 0) (S := S) (as := [.int a0]) (rm' := rm') at_77 (List.mem_of_getElem? (i := 45) rfl) (List.mem_of_getElem? (i := 46) rfl) (List.mem_of_getElem? (i := 48) rfl) (Or.inl rfl) kt (List.mem_of_getElem? (i := 47) rfl) (List.mem_of_getElem? (i := 3) rfl) (List.mem_of_getElem? (i := 49) rfl) (by decide) rfl pd7 rfl rfl hH hM hr (fun _ _ q => by obtain ⟨rfl, rfl⟩ := q; exact h)
theorem s0_77q {rm : Room} {S : List Value} {H : AHeap} {Q : Option Value → AHeap → Prop} {l0 l1 l2 l3 l4 l5 l6 l7 l8 l9 : Slot} {rm' : Room} {Q' : Option Value → AHeap → Prop} {i : Nat} {vs : List Value} {a0 : Value} (hH : H[i]? = some (.inl (0, vs))) (hM : M8 rm' [.ref i, a0] H Q') (hr : rok rm rm' 2 S = true) (h : ∀ v H', Q' v H' → W0 (less rm rm') 80 [l0, l1, l2, l3, l4, l5, l6, l7, l8, l9] (v.toList ++ S) H' Q) : W0 rm 77 [l0, l1, l2, l3, l4, l5, l6, l7, l8, l9] (a0 :: .ref i :: S) H Q := W.callV (c := 0) (S := S) (as := [a0]) (rm' := rm') at_77 (List.mem_of_getElem? (i := 45) rfl) (List.mem_of_getElem? (i := 46) rfl) (List.mem_of_getElem? (i := 48) rfl) (Or.inl rfl) kt (List.mem_of_getElem? (i := 47) rfl) (List.mem_of_getElem? (i := 3) rfl) (List.mem_of_getElem? (i := 49) rfl) (by decide) rfl pd7 rfl rfl hH hM hr h
theorem s0_80 {rm : Room} {S : List Value} {H : AHeap} {Q : Option Value → AHeap → Prop} {l0 l1 l2 l3 l4 l5 l7 l8 l9 : Slot} {x : Int32} (h : W0 rm 82 [l0, l1, l2, l3, l4, l5, .val (.int x), l7, l8, l9] (.int x :: S) (H) Q) : W0 rm 80 [l0, l1, l2, l3, l4, l5, .val (.int x), l7, l8, l9] (S) H Q := W.iload at_80 rfl h
theorem s0_82 {rm : Room} {S : List Value} {H : AHeap} {Q : Option Value → AHeap → Prop} {l0 l1 l2 l3 l4 l5 l6 l7 l8 l9 : Slot}  (h : W0 rm 83 [l0, l1, l2, l3, l4, l5, l6, l7, l8, l9] (.int 3 :: S) (H) Q) : W0 rm 82 [l0, l1, l2, l3, l4, l5, l6, l7, l8, l9] (S) H Q := W.iconst' at_82 (by decide) h
theorem s0_83 {rm : Room} {S : List Value} {H : AHeap} {Q : Option Value → AHeap → Prop} {l0 l1 l2 l3 l4 l5 l6 l7 l8 l9 : Slot} {x y : Int32} (h1 : ¬ y < x → W0 rm 93 [l0, l1, l2, l3, l4, l5, l6, l7, l8, l9] S H Q) (h2 : y < x → W0 rm 86 [l0, l1, l2, l3, l4, l5, l6, l7, l8, l9] S H Q) : W0 rm 83 [l0, l1, l2, l3, l4, l5, l6, l7, l8, l9] (.int y :: .int x :: S) H Q := W.icmp at_83 (by decide) (by decide) h1 h2
theorem s0_86 {rm : Room} {S : List Value} {H : AHeap} {Q : Option Value → AHeap → Prop} {l0 l1 l2 l3 l4 l5 l6 l7 l9 : Slot} {i : Nat} (h : W0 rm 88 [l0, l1, l2, l3, l4, l5, l6, l7, .val (.ref i), l9] (.ref i :: S) (H) Q) : W0 rm 86 [l0, l1, l2, l3, l4, l5, l6, l7, .val (.ref i), l9] (S) H Q := W.aload at_86 rfl rfl h
theorem s0_86n {rm : Room} {S : List Value} {H : AHeap} {Q : Option Value → AHeap → Prop} {l0 l1 l2 l3 l4 l5 l6 l7 l9 : Slot}  (h : W0 rm 88 [l0, l1, l2, l3, l4, l5, l6, l7, .val .null, l9] (.null :: S) (H) Q) : W0 rm 86 [l0, l1, l2, l3, l4, l5, l6, l7, .val .null, l9] (S) H Q := W.aload at_86 rfl rfl h
theorem s0_88 {rm : Room} {S : List Value} {H : AHeap} {Q : Option Value → AHeap → Prop} {l0 l1 l2 l3 l5 l6 l7 l8 l9 : Slot} {x : Int32} (h : W0 rm 90 [l0, l1, l2, l3, .val (.int x), l5, l6, l7, l8, l9] (.int x :: S) (H) Q) : W0 rm 88 [l0, l1, l2, l3, .val (.int x), l5, l6, l7, l8, l9] (S) H Q := W.iload at_88 rfl h
theorem s0_90 {rm : Room} {S : List Value} {H : AHeap} {Q : Option Value → AHeap → Prop} {l0 l1 l2 l3 l4 l5 l6 l7 l8 l9 : Slot} {rm' : Room} {H' : AHeap} {i : Nat} {vs : List Value} {a0 : Int32}  (hH : H[i]? = some (.inl (0, vs))) (hM : M8 rm' [.ref i, .int a0] H (Is none H')) (hr : rok rm rm' 2 S = true) (h : W0 (less rm rm') 93 [l0, l1, l2, l3, l4, l5, l6, l7, l8, l9] (S) H' Q) : W0 rm 90 [l0, l1, l2, l3, l4, l5, l6, l7, l8, l9] (.int a0 :: .ref i :: S) H Q := W.callV (c := 0) (S := S) (as := [.int a0]) (rm' := rm') at_90 (List.mem_of_getElem? (i := 45) rfl) (List.mem_of_getElem? (i := 46) rfl) (List.mem_of_getElem? (i := 48) rfl) (Or.inl rfl) kt (List.mem_of_getElem? (i := 47) rfl) (List.mem_of_getElem? (i := 3) rfl) (List.mem_of_getElem? (i := 49) rfl) (by decide) rfl pd7 rfl rfl hH hM hr (fun _ _ q => by obtain ⟨rfl, rfl⟩ := q; exact h)
theorem s0_90q {rm : Room} {S : List Value} {H : AHeap} {Q : Option Value → AHeap → Prop} {l0 l1 l2 l3 l4 l5 l6 l7 l8 l9 : Slot} {rm' : Room} {Q' : Option Value → AHeap → Prop} {i : Nat} {vs : List Value} {a0 : Value} (hH : H[i]? = some (.inl (0, vs))) (hM : M8 rm' [.ref i, a0] H Q') (hr : rok rm rm' 2 S = true) (h : ∀ v H', Q' v H' → W0 (less rm rm') 93 [l0, l1, l2, l3, l4, l5, l6, l7, l8, l9] (v.toList ++ S) H' Q) : W0 rm 90 [l0, l1, l2, l3, l4, l5, l6, l7, l8, l9] (a0 :: .ref i :: S) H Q := W.callV (c := 0) (S := S) (as := [a0]) (rm' := rm') at_90 (List.mem_of_getElem? (i := 45) rfl) (List.mem_of_getElem? (i := 46) rfl) (List.mem_of_getElem? (i := 48) rfl) (Or.inl rfl) kt (List.mem_of_getElem? (i := 47) rfl) (List.mem_of_getElem? (i := 3) rfl) (List.mem_of_getElem? (i := 49) rfl) (by decide) rfl pd7 rfl rfl hH hM hr h
theorem s0_93 {rm : Room} {S : List Value} {H : AHeap} {Q : Option Value → AHeap → Prop} {l0 l1 l2 l3 l4 l5 l7 l8 l9 : Slot} {x : Int32} (h : W0 rm 95 [l0, l1, l2, l3, l4, l5, .val (.int x), l7, l8, l9] (.int x :: S) (H) Q) : W0 rm 93 [l0, l1, l2, l3, l4, l5, .val (.int x), l7, l8, l9] (S) H Q := W.iload at_93 rfl h
theorem s0_95 {rm : Room} {S : List Value} {H : AHeap} {Q : Option Value → AHeap → Prop} {l0 l1 l2 l3 l4 l5 l6 l7 l8 l9 : Slot}  (h : W0 rm 96 [l0, l1, l2, l3, l4, l5, l6, l7, l8, l9] (.int 4 :: S) (H) Q) : W0 rm 95 [l0, l1, l2, l3, l4, l5, l6, l7, l8, l9] (S) H Q := W.iconst' at_95 (by decide) h
theorem s0_96 {rm : Room} {S : List Value} {H : AHeap} {Q : Option Value → AHeap → Prop} {l0 l1 l2 l3 l4 l5 l6 l7 l8 l9 : Slot} {x y : Int32} (h1 : ¬ y < x → W0 rm 106 [l0, l1, l2, l3, l4, l5, l6, l7, l8, l9] S H Q) (h2 : y < x → W0 rm 99 [l0, l1, l2, l3, l4, l5, l6, l7, l8, l9] S H Q) : W0 rm 96 [l0, l1, l2, l3, l4, l5, l6, l7, l8, l9] (.int y :: .int x :: S) H Q := W.icmp at_96 (by decide) (by decide) h1 h2
theorem s0_99 {rm : Room} {S : List Value} {H : AHeap} {Q : Option Value → AHeap → Prop} {l0 l1 l2 l3 l4 l5 l6 l7 l9 : Slot} {i : Nat} (h : W0 rm 101 [l0, l1, l2, l3, l4, l5, l6, l7, .val (.ref i), l9] (.ref i :: S) (H) Q) : W0 rm 99 [l0, l1, l2, l3, l4, l5, l6, l7, .val (.ref i), l9] (S) H Q := W.aload at_99 rfl rfl h
theorem s0_99n {rm : Room} {S : List Value} {H : AHeap} {Q : Option Value → AHeap → Prop} {l0 l1 l2 l3 l4 l5 l6 l7 l9 : Slot}  (h : W0 rm 101 [l0, l1, l2, l3, l4, l5, l6, l7, .val .null, l9] (.null :: S) (H) Q) : W0 rm 99 [l0, l1, l2, l3, l4, l5, l6, l7, .val .null, l9] (S) H Q := W.aload at_99 rfl rfl h
theorem s0_101 {rm : Room} {S : List Value} {H : AHeap} {Q : Option Value → AHeap → Prop} {l0 l1 l2 l3 l4 l6 l7 l8 l9 : Slot} {x : Int32} (h : W0 rm 103 [l0, l1, l2, l3, l4, .val (.int x), l6, l7, l8, l9] (.int x :: S) (H) Q) : W0 rm 101 [l0, l1, l2, l3, l4, .val (.int x), l6, l7, l8, l9] (S) H Q := W.iload at_101 rfl h
theorem s0_103 {rm : Room} {S : List Value} {H : AHeap} {Q : Option Value → AHeap → Prop} {l0 l1 l2 l3 l4 l5 l6 l7 l8 l9 : Slot} {rm' : Room} {H' : AHeap} {i : Nat} {vs : List Value} {a0 : Int32}  (hH : H[i]? = some (.inl (0, vs))) (hM : M8 rm' [.ref i, .int a0] H (Is none H')) (hr : rok rm rm' 2 S = true) (h : W0 (less rm rm') 106 [l0, l1, l2, l3, l4, l5, l6, l7, l8, l9] (S) H' Q) : W0 rm 103 [l0, l1, l2, l3, l4, l5, l6, l7, l8, l9] (.int a0 :: .ref i :: S) H Q := W.callV (c := 0) (S := S) (as := [.int a0]) (rm' := rm') at_103 (List.mem_of_getElem? (i := 45) rfl) (List.mem_of_getElem? (i := 46) rfl) (List.mem_of_getElem? (i := 48) rfl) (Or.inl rfl) kt (List.mem_of_getElem? (i := 47) rfl) (List.mem_of_getElem? (i := 3) rfl) (List.mem_of_getElem? (i := 49) rfl) (by decide) rfl pd7 rfl rfl hH hM hr (fun _ _ q => by obtain ⟨rfl, rfl⟩ := q; exact h)
theorem s0_103q {rm : Room} {S : List Value} {H : AHeap} {Q : Option Value → AHeap → Prop} {l0 l1 l2 l3 l4 l5 l6 l7 l8 l9 : Slot} {rm' : Room} {Q' : Option Value → AHeap → Prop} {i : Nat} {vs : List Value} {a0 : Value} (hH : H[i]? = some (.inl (0, vs))) (hM : M8 rm' [.ref i, a0] H Q') (hr : rok rm rm' 2 S = true) (h : ∀ v H', Q' v H' → W0 (less rm rm') 106 [l0, l1, l2, l3, l4, l5, l6, l7, l8, l9] (v.toList ++ S) H' Q) : W0 rm 103 [l0, l1, l2, l3, l4, l5, l6, l7, l8, l9] (a0 :: .ref i :: S) H Q := W.callV (c := 0) (S := S) (as := [a0]) (rm' := rm') at_103 (List.mem_of_getElem? (i := 45) rfl) (List.mem_of_getElem? (i := 46) rfl) (List.mem_of_getElem? (i := 48) rfl) (Or.inl rfl) kt (List.mem_of_getElem? (i := 47) rfl) (List.mem_of_getElem? (i := 3) rfl) (List.mem_of_getElem? (i := 49) rfl) (by decide) rfl pd7 rfl rfl hH hM hr h
theorem s0_106 {rm : Room} {S : List Value} {H : AHeap} {Q : Option Value → AHeap → Prop} {l0 l1 l2 l3 l4 l5 l6 l7 l9 : Slot} {i : Nat} (h : W0 rm 108 [l0, l1, l2, l3, l4, l5, l6, l7, .val (.ref i), l9] (.ref i :: S) (H) Q) : W0 rm 106 [l0, l1, l2, l3, l4, l5, l6, l7, .val (.ref i), l9] (S) H Q := W.aload at_106 rfl rfl h
theorem s0_106n {rm : Room} {S : List Value} {H : AHeap} {Q : Option Value → AHeap → Prop} {l0 l1 l2 l3 l4 l5 l6 l7 l9 : Slot}  (h : W0 rm 108 [l0, l1, l2, l3, l4, l5, l6, l7, .val .null, l9] (.null :: S) (H) Q) : W0 rm 106 [l0, l1, l2, l3, l4, l5, l6, l7, .val .null, l9] (S) H Q := W.aload at_106 rfl rfl h
theorem s0_108 {rm : Room} {S : List Value} {H : AHeap} {Q : Option Value → AHeap → Prop} {l0 l1 l2 l3 l4 l5 l6 l7 l8 l9 : Slot} {rm' : Room} {H' : AHeap} {i : Nat} {vs : List Value}   (hH : H[i]? = some (.inl (0, vs))) (hM : M2 rm' [.ref i] H (Is none H')) (hr : rok rm rm' 4 S = true) (h : W0 (less rm rm') 111 [l0, l1, l2, l3, l4, l5, l6, l7, l8, l9] (S) H' Q) : W0 rm 108 [l0, l1, l2, l3, l4, l5, l6, l7, l8, l9] (.ref i :: S) H Q := W.callV (c := 0) (S := S) (as := []) (rm' := rm') at_108 (List.mem_of_getElem? (i := 12) rfl) (List.mem_of_getElem? (i := 13) rfl) (List.mem_of_getElem? (i := 15) rfl) (Or.inl rfl) kt (List.mem_of_getElem? (i := 14) rfl) (List.mem_of_getElem? (i := 3) rfl) (List.mem_of_getElem? (i := 16) rfl) (by decide) rfl pd1 rfl rfl hH hM hr (fun _ _ q => by obtain ⟨rfl, rfl⟩ := q; exact h)
theorem s0_108q {rm : Room} {S : List Value} {H : AHeap} {Q : Option Value → AHeap → Prop} {l0 l1 l2 l3 l4 l5 l6 l7 l8 l9 : Slot} {rm' : Room} {Q' : Option Value → AHeap → Prop} {i : Nat} {vs : List Value}  (hH : H[i]? = some (.inl (0, vs))) (hM : M2 rm' [.ref i] H Q') (hr : rok rm rm' 4 S = true) (h : ∀ v H', Q' v H' → W0 (less rm rm') 111 [l0, l1, l2, l3, l4, l5, l6, l7, l8, l9] (v.toList ++ S) H' Q) : W0 rm 108 [l0, l1, l2, l3, l4, l5, l6, l7, l8, l9] (.ref i :: S) H Q := W.callV (c := 0) (S := S) (as := []) (rm' := rm') at_108 (List.mem_of_getElem? (i := 12) rfl) (List.mem_of_getElem? (i := 13) rfl) (List.mem_of_getElem? (i := 15) rfl) (Or.inl rfl) kt (List.mem_of_getElem? (i := 14) rfl) (List.mem_of_getElem? (i := 3) rfl) (List.mem_of_getElem? (i := 16) rfl) (by decide) rfl pd1 rfl rfl hH hM hr h
theorem s0_111 {rm : Room} {S : List Value} {H : AHeap} {Q : Option Value → AHeap → Prop} {l0 l1 l2 l3 l4 l5 l6 l7 l9 : Slot} {i : Nat} (h : W0 rm 113 [l0, l1, l2, l3, l4, l5, l6, l7, .val (.ref i), l9] (.ref i :: S) (H) Q) : W0 rm 111 [l0, l1, l2, l3, l4, l5, l6, l7, .val (.ref i), l9] (S) H Q := W.aload at_111 rfl rfl h
theorem s0_111n {rm : Room} {S : List Value} {H : AHeap} {Q : Option Value → AHeap → Prop} {l0 l1 l2 l3 l4 l5 l6 l7 l9 : Slot}  (h : W0 rm 113 [l0, l1, l2, l3, l4, l5, l6, l7, .val .null, l9] (.null :: S) (H) Q) : W0 rm 111 [l0, l1, l2, l3, l4, l5, l6, l7, .val .null, l9] (S) H Q := W.aload at_111 rfl rfl h
theorem s0_113 {rm : Room} {S : List Value} {H : AHeap} {Q : Option Value → AHeap → Prop} {l0 l1 l2 l3 l4 l5 l6 l7 l8 l9 : Slot} {rm' : Room} {H' : AHeap} {i : Nat} {vs : List Value}  {r : Int32} (hH : H[i]? = some (.inl (0, vs))) (hM : M3 rm' [.ref i] H (Is (some (.int r)) H')) (hr : rok rm rm' 1 S = true) (h : W0 (less rm rm') 116 [l0, l1, l2, l3, l4, l5, l6, l7, l8, l9] (.int r :: S) H' Q) : W0 rm 113 [l0, l1, l2, l3, l4, l5, l6, l7, l8, l9] (.ref i :: S) H Q := W.callV (c := 0) (S := S) (as := []) (rm' := rm') at_113 (List.mem_of_getElem? (i := 19) rfl) (List.mem_of_getElem? (i := 20) rfl) (List.mem_of_getElem? (i := 22) rfl) (Or.inl rfl) kt (List.mem_of_getElem? (i := 21) rfl) (List.mem_of_getElem? (i := 3) rfl) (List.mem_of_getElem? (i := 23) rfl) (by decide) rfl pd2 rfl rfl hH hM hr (fun _ _ q => by obtain ⟨rfl, rfl⟩ := q; exact h)
theorem s0_113q {rm : Room} {S : List Value} {H : AHeap} {Q : Option Value → AHeap → Prop} {l0 l1 l2 l3 l4 l5 l6 l7 l8 l9 : Slot} {rm' : Room} {Q' : Option Value → AHeap → Prop} {i : Nat} {vs : List Value}  (hH : H[i]? = some (.inl (0, vs))) (hM : M3 rm' [.ref i] H Q') (hr : rok rm rm' 1 S = true) (h : ∀ v H', Q' v H' → W0 (less rm rm') 116 [l0, l1, l2, l3, l4, l5, l6, l7, l8, l9] (v.toList ++ S) H' Q) : W0 rm 113 [l0, l1, l2, l3, l4, l5, l6, l7, l8, l9] (.ref i :: S) H Q := W.callV (c := 0) (S := S) (as := []) (rm' := rm') at_113 (List.mem_of_getElem? (i := 19) rfl) (List.mem_of_getElem? (i := 20) rfl) (List.mem_of_getElem? (i := 22) rfl) (Or.inl rfl) kt (List.mem_of_getElem? (i := 21) rfl) (List.mem_of_getElem? (i := 3) rfl) (List.mem_of_getElem? (i := 23) rfl) (by decide) rfl pd2 rfl rfl hH hM hr h
theorem s0_116 {rm : Room} {S : List Value} {H : AHeap} {Q : Option Value → AHeap → Prop} {l0 l1 l2 l3 l4 l5 l7 l8 l9 : Slot} {x : Int32} (h : W0 rm 118 [l0, l1, l2, l3, l4, l5, .val (.int x), l7, l8, l9] (.int x :: S) (H) Q) : W0 rm 116 [l0, l1, l2, l3, l4, l5, .val (.int x), l7, l8, l9] (S) H Q := W.iload at_116 rfl h
theorem s0_118 {rm : Room} {S : List Value} {H : AHeap} {Q : Option Value → AHeap → Prop} {l0 l1 l2 l3 l4 l5 l6 l7 l8 l9 : Slot} {x y : Int32} (h1 : x = y → W0 rm 123 [l0, l1, l2, l3, l4, l5, l6, l7, l8, l9] S H Q) (h2 : ¬ x = y → W0 rm 121 [l0, l1, l2, l3, l4, l5, l6, l7, l8, l9] S H Q) : W0 rm 118 [l0, l1, l2, l3, l4, l5, l6, l7, l8, l9] (.int y :: .int x :: S) H Q := W.icmp at_118 (by decide) (by decide) h1 h2
theorem s0_121 {rm : Room} {S : List Value} {H : AHeap} {Q : Option Value → AHeap → Prop} {l0 l1 l2 l3 l4 l5 l6 l7 l8 l9 : Slot}  (h : W0 rm 122 [l0, l1, l2, l3, l4, l5, l6, l7, l8, l9] (.int 0 :: S) (H) Q) : W0 rm 121 [l0, l1, l2, l3, l4, l5, l6, l7, l8, l9] (S) H Q := W.iconst' at_121 (by decide) h
theorem s0_122 {rm : Room} {S : List Value} {H : AHeap} {Q : Option Value → AHeap → Prop} {l0 l1 l2 l3 l4 l5 l6 l7 l8 l9 : Slot} {x : Int32} (hQ : Q (some (.int (x &&& 1))) H) : W0 rm 122 [l0, l1, l2, l3, l4, l5, l6, l7, l8, l9] (.int x :: S) H Q := W.ireturnZ at_122 rfl hQ
theorem s0_123 {rm : Room} {S : List Value} {H : AHeap} {Q : Option Value → AHeap → Prop} {l0 l1 l2 l3 l4 l5 l6 l7 l9 : Slot} {i : Nat} (h : W0 rm 125 [l0, l1, l2, l3, l4, l5, l6, l7, .val (.ref i), l9] (.ref i :: S) (H) Q) : W0 rm 123 [l0, l1, l2, l3, l4, l5, l6, l7, .val (.ref i), l9] (S) H Q := W.aload at_123 rfl rfl h
theorem s0_123n {rm : Room} {S : List Value} {H : AHeap} {Q : Option Value → AHeap → Prop} {l0 l1 l2 l3 l4 l5 l6 l7 l9 : Slot}  (h : W0 rm 125 [l0, l1, l2, l3, l4, l5, l6, l7, .val .null, l9] (.null :: S) (H) Q) : W0 rm 123 [l0, l1, l2, l3, l4, l5, l6, l7, .val .null, l9] (S) H Q := W.aload at_123 rfl rfl h
theorem s0_125 {rm : Room} {S : List Value} {H : AHeap} {Q : Option Value → AHeap → Prop} {l0 l1 l2 l3 l4 l5 l6 l7 l8 l9 : Slot} {rm' : Room} {H' : AHeap} {i : Nat} {vs : List Value}  {r : Nat} (hH : H[i]? = some (.inl (0, vs))) (hM : M4 rm' [.ref i] H (Is (some (.ref r)) H')) (hr : rok rm rm' 1 S = true) (h : W0 (less rm rm') 128 [l0, l1, l2, l3, l4, l5, l6, l7, l8, l9] (.ref r :: S) H' Q) : W0 rm 125 [l0, l1, l2, l3, l4, l5, l6, l7, l8, l9] (.ref i :: S) H Q := W.callV (c := 0) (S := S) (as := []) (rm' := rm') at_125 (List.mem_of_getElem? (i := 24) rfl) (List.mem_of_getElem? (i := 25) rfl) (List.mem_of_getElem? (i := 27) rfl) (Or.inl rfl) kt (List.mem_of_getElem? (i := 26) rfl) (List.mem_of_getElem? (i := 3) rfl) (List.mem_of_getElem? (i := 28) rfl) (by decide) rfl pd3 rfl rfl hH hM hr (fun _ _ q => by obtain ⟨rfl, rfl⟩ := q; exact h)
theorem s0_125q {rm : Room} {S : List Value} {H : AHeap} {Q : Option Value → AHeap → Prop} {l0 l1 l2 l3 l4 l5 l6 l7 l8 l9 : Slot} {rm' : Room} {Q' : Option Value → AHeap → Prop} {i : Nat} {vs : List Value}  (hH : H[i]? = some (.inl (0, vs))) (hM : M4 rm' [.ref i] H Q') (hr : rok rm rm' 1 S = true) (h : ∀ v H', Q' v H' → W0 (less rm rm') 128 [l0, l1, l2, l3, l4, l5, l6, l7, l8, l9] (v.toList ++ S) H' Q) : W0 rm 125 [l0, l1, l2, l3, l4, l5, l6, l7, l8, l9] (.ref i :: S) H Q := W.callV (c := 0) (S := S) (as := []) (rm' := rm') at_125 (List.mem_of_getElem? (i := 24) rfl) (List.mem_of_getElem? (i := 25) rfl) (List.mem_of_getElem? (i := 27) rfl) (Or.inl rfl) kt (List.mem_of_getElem? (i := 26) rfl) (List.mem_of_getElem? (i := 3) rfl) (List.mem_of_getElem? (i := 28) rfl) (by decide) rfl pd3 rfl rfl hH hM hr h
theorem s0_128 {rm : Room} {S : List Value} {H : AHeap} {Q : Option Value → AHeap → Prop} {l0 l1 l2 l3 l4 l5 l6 l7 l8 l9 : Slot} {i : Nat} (ho : one l9 = true) (h : W0 rm 130 [l0, l1, l2, l3, l4, l5, l6, l7, l8, .val (.ref i)] (S) (H) Q) : W0 rm 128 [l0, l1, l2, l3, l4, l5, l6, l7, l8, l9] (.ref i :: S) H Q := W.astore at_128 rfl ho rfl h
theorem s0_130 {rm : Room} {S : List Value} {H : AHeap} {Q : Option Value → AHeap → Prop} {l0 l1 l2 l3 l4 l5 l6 l7 l8 : Slot} {i : Nat} (h : W0 rm 132 [l0, l1, l2, l3, l4, l5, l6, l7, l8, .val (.ref i)] (.ref i :: S) (H) Q) : W0 rm 130 [l0, l1, l2, l3, l4, l5, l6, l7, l8, .val (.ref i)] (S) H Q := W.aload at_130 rfl rfl h
theorem s0_130n {rm : Room} {S : List Value} {H : AHeap} {Q : Option Value → AHeap → Prop} {l0 l1 l2 l3 l4 l5 l6 l7 l8 : Slot}  (h : W0 rm 132 [l0, l1, l2, l3, l4, l5, l6, l7, l8, .val .null] (.null :: S) (H) Q) : W0 rm 130 [l0, l1, l2, l3, l4, l5, l6, l7, l8, .val .null] (S) H Q := W.aload at_130 rfl rfl h
theorem s0_132 {rm : Room} {S : List Value} {H : AHeap} {Q : Option Value → AHeap → Prop} {l0 l1 l2 l3 l4 l5 l6 l7 l8 l9 : Slot} {i : Nat} {ty : FieldType} {vs : List Value} (hH : H[i]? = some (.inr (ty, vs))) (h : W0 rm 133 [l0, l1, l2, l3, l4, l5, l6, l7, l8, l9] (.int (Int32.ofNat vs.length) :: S) (H) Q) : W0 rm 132 [l0, l1, l2, l3, l4, l5, l6, l7, l8, l9] (.ref i :: S) H Q := W.arraylength at_132 hH h
theorem s0_132k {rm : Room} {S : List Value} {H : AHeap} {Q : Option Value → AHeap → Prop} {l0 l1 l2 l3 l4 l5 l6 l7 l8 l9 : Slot} {i : Nat} {ty : FieldType} {vs : List Value} (n : Int32) (hH : H[i]? = some (.inr (ty, vs))) (hn : Int32.ofNat vs.length = n) (h : W0 rm 133 [l0, l1, l2, l3, l4, l5, l6, l7, l8, l9] (.int n :: S) (H) Q) : W0 rm 132 [l0, l1, l2, l3, l4, l5, l6, l7, l8, l9] (.ref i :: S) H Q := W.arraylength at_132 hH (by rw [hn]; exact h)
theorem s0_133 {rm : Room} {S : List Value} {H : AHeap} {Q : Option Value → AHeap → Prop} {l0 l1 l2 l3 l4 l5 l7 l8 l9 : Slot} {x : Int32} (h : W0 rm 135 [l0, l1, l2, l3, l4, l5, .val (.int x), l7, l8, l9] (.int x :: S) (H) Q) : W0 rm 133 [l0, l1, l2, l3, l4, l5, .val (.int x), l7, l8, l9] (S) H Q := W.iload at_133 rfl h
theorem s0_135 {rm : Room} {S : List Value} {H : AHeap} {Q : Option Value → AHeap → Prop} {l0 l1 l2 l3 l4 l5 l6 l7 l8 l9 : Slot} {x y : Int32} (h1 : x = y → W0 rm 140 [l0, l1, l2, l3, l4, l5, l6, l7, l8, l9] S H Q) (h2 : ¬ x = y → W0 rm 138 [l0, l1, l2, l3, l4, l5, l6, l7, l8, l9] S H Q) : W0 rm 135 [l0, l1, l2, l3, l4, l5, l6, l7, l8, l9] (.int y :: .int x :: S) H Q := W.icmp at_135 (by decide) (by decide) h1 h2
theorem s0_138 {rm : Room} {S : List Value} {H : AHeap} {Q : Option Value → AHeap → Prop} {l0 l1 l2 l3 l4 l5 l6 l7 l8 l9 : Slot}  (h : W0 rm 139 [l0, l1, l2, l3, l4, l5, l6, l7, l8, l9] (.int 0 :: S) (H) Q) : W0 rm 138 [l0, l1, l2, l3, l4, l5, l6, l7, l8, l9] (S) H Q := W.iconst' at_138 (by decide) h
theorem s0_139 {rm : Room} {S : List Value} {H : AHeap} {Q : Option Value → AHeap → Prop} {l0 l1 l2 l3 l4 l5 l6 l7 l8 l9 : Slot} {x : Int32} (hQ : Q (some (.int (x &&& 1))) H) : W0 rm 139 [l0, l1, l2, l3, l4, l5, l6, l7, l8, l9] (.int x :: S) H Q := W.ireturnZ at_139 rfl hQ
theorem s0_140 {rm : Room} {S : List Value} {H : AHeap} {Q : Option Value → AHeap → Prop} {l0 l1 l2 l3 l4 l5 l6 l7 l8 : Slot} {i : Nat} (h : W0 rm 142 [l0, l1, l2, l3, l4, l5, l6, l7, l8, .val (.ref i)] (.ref i :: S) (H) Q) : W0 rm 140 [l0, l1, l2, l3, l4, l5, l6, l7, l8, .val (.ref i)] (S) H Q := W.aload at_140 rfl rfl h
theorem s0_140n {rm : Room} {S : List Value} {H : AHeap} {Q : Option Value → AHeap → Prop} {l0 l1 l2 l3 l4 l5 l6 l7 l8 : Slot}  (h : W0 rm 142 [l0, l1, l2, l3, l4, l5, l6, l7, l8, .val .null] (.null :: S) (H) Q) : W0 rm 140 [l0, l1, l2, l3, l4, l5, l6, l7, l8, .val .null] (S) H Q := W.aload at_140 rfl rfl h
theorem s0_142 {rm : Room} {S : List Value} {H : AHeap} {Q : Option Value → AHeap → Prop} {l0 l1 l2 l3 l4 l5 l6 l8 l9 : Slot} {i : Nat} (h : W0 rm 144 [l0, l1, l2, l3, l4, l5, l6, .val (.ref i), l8, l9] (.ref i :: S) (H) Q) : W0 rm 142 [l0, l1, l2, l3, l4, l5, l6, .val (.ref i), l8, l9] (S) H Q := W.aload at_142 rfl rfl h
theorem s0_142n {rm : Room} {S : List Value} {H : AHeap} {Q : Option Value → AHeap → Prop} {l0 l1 l2 l3 l4 l5 l6 l8 l9 : Slot}  (h : W0 rm 144 [l0, l1, l2, l3, l4, l5, l6, .val .null, l8, l9] (.null :: S) (H) Q) : W0 rm 142 [l0, l1, l2, l3, l4, l5, l6, .val .null, l8, l9] (S) H Q := W.aload at_142 rfl rfl h
theorem s0_144 {rm : Room} {S : List Value} {H : AHeap} {Q : Option Value → AHeap → Prop} {l0 l1 l2 l3 l4 l5 l7 l8 l9 : Slot} {x : Int32} (h : W0 rm 146 [l0, l1, l2, l3, l4, l5, .val (.int x), l7, l8, l9] (.int x :: S) (H) Q) : W0 rm 144 [l0, l1, l2, l3, l4, l5, .val (.int x), l7, l8, l9] (S) H Q := W.iload at_144 rfl h
theorem s0_146 {rm : Room} {S : List Value} {H : AHeap} {Q : Option Value → AHeap → Prop} {l0 l1 l2 l3 l4 l5 l6 l7 l8 l9 : Slot}  (h : W0 rm 147 [l0, l1, l2, l3, l4, l5, l6, l7, l8, l9] (.int 0 :: S) (H) Q) : W0 rm 146 [l0, l1, l2, l3, l4, l5, l6, l7, l8, l9] (S) H Q := W.iconst' at_146 (by decide) h
theorem s0_147 {rm : Room} {S : List Value} {H : AHeap} {Q : Option Value → AHeap → Prop} {l0 l1 l2 l3 l4 l5 l6 l7 l8 l9 : Slot} {rm' : Room} {H' : AHeap} {a0 : Nat} {a1 : Nat} {a2 : Int32} {a3 : Int32} {r : Int32} (hM : M7 rm' [.ref a0, .ref a1, .int a2, .int a3] H (Is (some (.int r)) H')) (hr : rok rm rm' 4 S = true) (h : W0 (less rm rm') 150 [l0, l1, l2, l3, l4, l5, l6, l7, l8, l9] (.int r :: S) H' Q) : W0 rm 147 [l0, l1, l2, l3, l4, l5, l6, l7, l8, l9] (.int a3 :: .int a2 :: .ref a1 :: .ref a0 :: S) H Q := W.callS (S := S) (as := [.ref a0, .ref a1, .int a2, .int a3]) (rm' := rm') at_147 (List.mem_of_getElem? (i := 41) rfl) (List.mem_of_getElem? (i := 42) rfl) (List.mem_of_getElem? (i := 43) rfl) (List.mem_of_getElem? (i := 44) rfl) (by decide) pd6 rfl rfl hM hr (fun _ _ q => by obtain ⟨rfl, rfl⟩ := q; exact h)
theorem s0_147q {rm : Room} {S : List Value} {H : AHeap} {Q : Option Value → AHeap → Prop} {l0 l1 l2 l3 l4 l5 l6 l7 l8 l9 : Slot} {rm' : Room} {Q' : Option Value → AHeap → Prop} {a0 a1 a2 a3 : Value} (hM : M7 rm' [a0, a1, a2, a3] H Q') (hr : rok rm rm' 4 S = true) (h : ∀ v H', Q' v H' → W0 (less rm rm') 150 [l0, l1, l2, l3, l4, l5, l6, l7, l8, l9] (v.toList ++ S) H' Q) : W0 rm 147 [l0, l1, l2, l3, l4, l5, l6, l7, l8, l9] (a3 :: a2 :: a1 :: a0 :: S) H Q := W.callS (S := S) (as := [a0, a1, a2, a3]) (rm' := rm') at_147 (List.mem_of_getElem? (i := 41) rfl) (List.mem_of_getElem? (i := 42) rfl) (List.mem_of_getElem? (i := 43) rfl) (List.mem_of_getElem? (i := 44) rfl) (by decide) pd6 rfl rfl hM hr h
theorem s0_150 {rm : Room} {S : List Value} {H : AHeap} {Q : Option Value → AHeap → Prop} {l0 l1 l2 l3 l4 l5 l6 l7 l8 l9 : Slot} {x : Int32} (h1 : x = 0 → W0 rm 209 [l0, l1, l2, l3, l4, l5, l6, l7, l8, l9] S H Q) (h2 : ¬ x = 0 → W0 rm 153 [l0, l1, l2, l3, l4, l5, l6, l7, l8, l9] S H Q) : W0 rm 150 [l0, l1, l2, l3, l4, l5, l6, l7, l8, l9] (.int x :: S) H Q := W.ifc at_150 (by decide) (by decide) h1 h2
theorem s0_153 {rm : Room} {S : List Value} {H : AHeap} {Q : Option Value → AHeap → Prop} {l0 l1 l2 l3 l4 l5 l6 l7 l8 : Slot} {i : Nat} (h : W0 rm 155 [l0, l1, l2, l3, l4, l5, l6, l7, l8, .val (.ref i)] (.ref i :: S) (H) Q) : W0 rm 153 [l0, l1, l2, l3, l4, l5, l6, l7, l8, .val (.ref i)] (S) H Q := W.aload at_153 rfl rfl h
theorem s0_153n {rm : Room} {S : List Value} {H : AHeap} {Q : Option Value → AHeap → Prop} {l0 l1 l2 l3 l4 l5 l6 l7 l8 : Slot}  (h : W0 rm 155 [l0, l1, l2, l3, l4, l5, l6, l7, l8, .val .null] (.null :: S) (H) Q) : W0 rm 153 [l0, l1, l2, l3, l4, l5, l6, l7, l8, .val .null] (S) H Q := W.aload at_153 rfl rfl h
theorem s0_155 {rm : Room} {S : List Value} {H : AHeap} {Q : Option Value → AHeap → Prop} {l0 l1 l2 l3 l4 l5 l6 l8 l9 : Slot} {i : Nat} (h : W0 rm 157 [l0, l1, l2, l3, l4, l5, l6, .val (.ref i), l8, l9] (.ref i :: S) (H) Q) : W0 rm 155 [l0, l1, l2, l3, l4, l5, l6, .val (.ref i), l8, l9] (S) H Q := W.aload at_155 rfl rfl h
theorem s0_155n {rm : Room} {S : List Value} {H : AHeap} {Q : Option Value → AHeap → Prop} {l0 l1 l2 l3 l4 l5 l6 l8 l9 : Slot}  (h : W0 rm 157 [l0, l1, l2, l3, l4, l5, l6, .val .null, l8, l9] (.null :: S) (H) Q) : W0 rm 155 [l0, l1, l2, l3, l4, l5, l6, .val .null, l8, l9] (S) H Q := W.aload at_155 rfl rfl h
theorem s0_157 {rm : Room} {S : List Value} {H : AHeap} {Q : Option Value → AHeap → Prop} {l0 l1 l2 l3 l4 l5 l7 l8 l9 : Slot} {x : Int32} (h : W0 rm 159 [l0, l1, l2, l3, l4, l5, .val (.int x), l7, l8, l9] (.int x :: S) (H) Q) : W0 rm 157 [l0, l1, l2, l3, l4, l5, .val (.int x), l7, l8, l9] (S) H Q := W.iload at_157 rfl h
theorem s0_159 {rm : Room} {S : List Value} {H : AHeap} {Q : Option Value → AHeap → Prop} {l0 l1 l2 l3 l4 l5 l6 l7 l8 l9 : Slot}  (h : W0 rm 160 [l0, l1, l2, l3, l4, l5, l6, l7, l8, l9] (.int 1 :: S) (H) Q) : W0 rm 159 [l0, l1, l2, l3, l4, l5, l6, l7, l8, l9] (S) H Q := W.iconst' at_159 (by decide) h
theorem s0_160 {rm : Room} {S : List Value} {H : AHeap} {Q : Option Value → AHeap → Prop} {l0 l1 l2 l3 l4 l5 l6 l7 l8 l9 : Slot} {rm' : Room} {H' : AHeap} {a0 : Nat} {a1 : Nat} {a2 : Int32} {a3 : Int32} {r : Int32} (hM : M7 rm' [.ref a0, .ref a1, .int a2, .int a3] H (Is (some (.int r)) H')) (hr : rok rm rm' 4 S = true) (h : W0 (less rm rm') 163 [l0, l1, l2, l3, l4, l5, l6, l7, l8, l9] (.int r :: S) H' Q) : W0 rm 160 [l0, l1, l2, l3, l4, l5, l6, l7, l8, l9] (.int a3 :: .int a2 :: .ref a1 :: .ref a0 :: S) H Q := W.callS (S := S) (as := [.ref a0, .ref a1, .int a2, .int a3]) (rm' := rm') at_160 (List.mem_of_getElem? (i := 41) rfl) (List.mem_of_getElem? (i := 42) rfl) (List.mem_of_getElem? (i := 43) rfl) (List.mem_of_getElem? (i := 44) rfl) (by decide) pd6 rfl rfl hM hr (fun _ _ q => by obtain ⟨rfl, rfl⟩ := q; exact h)
theorem s0_160q {rm : Room} {S : List Value} {H : AHeap} {Q : Option Value → AHeap → Prop} {l0 l1 l2 l3 l4 l5 l6 l7 l8 l9 : Slot} {rm' : Room} {Q' : Option Value → AHeap → Prop} {a0 a1 a2 a3 : Value} (hM : M7 rm' [a0, a1, a2, a3] H Q') (hr : rok rm rm' 4 S = true) (h : ∀ v H', Q' v H' → W0 (less rm rm') 163 [l0, l1, l2, l3, l4, l5, l6, l7, l8, l9] (v.toList ++ S) H' Q) : W0 rm 160 [l0, l1, l2, l3, l4, l5, l6, l7, l8, l9] (a3 :: a2 :: a1 :: a0 :: S) H Q := W.callS (S := S) (as := [a0, a1, a2, a3]) (rm' := rm') at_160 (List.mem_of_getElem? (i := 41) rfl) (List.mem_of_getElem? (i := 42) rfl) (List.mem_of_getElem? (i := 43) rfl) (List.mem_of_getElem? (i := 44) rfl) (by decide) pd6 rfl rfl hM hr h
theorem s0_163 {rm : Room} {S : List Value} {H : AHeap} {Q : Option Value → AHeap → Prop} {l0 l1 l2 l3 l4 l5 l6 l7 l8 l9 : Slot} {x : Int32} (h1 : x = 0 → W0 rm 209 [l0, l1, l2, l3, l4, l5, l6, l7, l8, l9] S H Q) (h2 : ¬ x = 0 → W0 rm 166 [l0, l1, l2, l3, l4, l5, l6, l7, l8, l9] S H Q) : W0 rm 163 [l0, l1, l2, l3, l4, l5, l6, l7, l8, l9] (.int x :: S) H Q := W.ifc at_163 (by decide) (by decide) h1 h2
theorem s0_166 {rm : Room} {S : List Value} {H : AHeap} {Q : Option Value → AHeap → Prop} {l0 l1 l2 l3 l4 l5 l6 l7 l8 : Slot} {i : Nat} (h : W0 rm 168 [l0, l1, l2, l3, l4, l5, l6, l7, l8, .val (.ref i)] (.ref i :: S) (H) Q) : W0 rm 166 [l0, l1, l2, l3, l4, l5, l6, l7, l8, .val (.ref i)] (S) H Q := W.aload at_166 rfl rfl h
theorem s0_166n {rm : Room} {S : List Value} {H : AHeap} {Q : Option Value → AHeap → Prop} {l0 l1 l2 l3 l4 l5 l6 l7 l8 : Slot}  (h : W0 rm 168 [l0, l1, l2, l3, l4, l5, l6, l7, l8, .val .null] (.null :: S) (H) Q) : W0 rm 166 [l0, l1, l2, l3, l4, l5, l6, l7, l8, .val .null] (S) H Q := W.aload at_166 rfl rfl h
theorem s0_168 {rm : Room} {S : List Value} {H : AHeap} {Q : Option Value → AHeap → Prop} {l0 l1 l2 l3 l4 l5 l6 l8 l9 : Slot} {i : Nat} (h : W0 rm 170 [l0, l1, l2, l3, l4, l5, l6, .val (.ref i), l8, l9] (.ref i :: S) (H) Q) : W0 rm 168 [l0, l1, l2, l3, l4, l5, l6, .val (.ref i), l8, l9] (S) H Q := W.aload at_168 rfl rfl h
theorem s0_168n {rm : Room} {S : List Value} {H : AHeap} {Q : Option Value → AHeap → Prop} {l0 l1 l2 l3 l4 l5 l6 l8 l9 : Slot}  (h : W0 rm 170 [l0, l1, l2, l3, l4, l5, l6, .val .null, l8, l9] (.null :: S) (H) Q) : W0 rm 168 [l0, l1, l2, l3, l4, l5, l6, .val .null, l8, l9] (S) H Q := W.aload at_168 rfl rfl h
theorem s0_170 {rm : Room} {S : List Value} {H : AHeap} {Q : Option Value → AHeap → Prop} {l0 l1 l2 l3 l4 l5 l7 l8 l9 : Slot} {x : Int32} (h : W0 rm 172 [l0, l1, l2, l3, l4, l5, .val (.int x), l7, l8, l9] (.int x :: S) (H) Q) : W0 rm 170 [l0, l1, l2, l3, l4, l5, .val (.int x), l7, l8, l9] (S) H Q := W.iload at_170 rfl h
theorem s0_172 {rm : Room} {S : List Value} {H : AHeap} {Q : Option Value → AHeap → Prop} {l0 l1 l2 l3 l4 l5 l6 l7 l8 l9 : Slot}  (h : W0 rm 173 [l0, l1, l2, l3, l4, l5, l6, l7, l8, l9] (.int 2 :: S) (H) Q) : W0 rm 172 [l0, l1, l2, l3, l4, l5, l6, l7, l8, l9] (S) H Q := W.iconst' at_172 (by decide) h
theorem s0_173 {rm : Room} {S : List Value} {H : AHeap} {Q : Option Value → AHeap → Prop} {l0 l1 l2 l3 l4 l5 l6 l7 l8 l9 : Slot} {rm' : Room} {H' : AHeap} {a0 : Nat} {a1 : Nat} {a2 : Int32} {a3 : Int32} {r : Int32} (hM : M7 rm' [.ref a0, .ref a1, .int a2, .int a3] H (Is (some (.int r)) H')) (hr : rok rm rm' 4 S = true) (h : W0 (less rm rm') 176 [l0, l1, l2, l3, l4, l5, l6, l7, l8, l9] (.int r :: S) H' Q) : W0 rm 173 [l0, l1, l2, l3, l4, l5, l6, l7, l8, l9] (.int a3 :: .int a2 :: .ref a1 :: .ref a0 :: S) H Q := W.callS (S := S) (as := [.ref a0, .ref a1, .int a2, .int a3]) (rm' := rm') at_173 (List.mem_of_getElem? (i := 41) rfl) (List.mem_of_getElem? (i := 42) rfl) (List.mem_of_getElem? (i := 43) rfl) (List.mem_of_getElem? (i := 44) rfl) (by decide) pd6 rfl rfl hM hr (fun _ _ q => by obtain ⟨rfl, rfl⟩ := q; exact h)
theorem s0_173q {rm : Room} {S : List Value} {H : AHeap} {Q : Option Value → AHeap → Prop} {l0 l1 l2 l3 l4 l5 l6 l7 l8 l9 : Slot} {rm' : Room} {Q' : Option Value → AHeap → Prop} {a0 a1 a2 a3 : Value} (hM : M7 rm' [a0, a1, a2, a3] H Q') (hr : rok rm rm' 4 S = true) (h : ∀ v H', Q' v H' → W0 (less rm rm') 176 [l0, l1, l2, l3, l4, l5, l6, l7, l8, l9] (v.toList ++ S) H' Q) : W0 rm 173 [l0, l1, l2, l3, l4, l5, l6, l7, l8, l9] (a3 :: a2 :: a1 :: a0 :: S) H Q := W.callS (S := S) (as := [a0, a1, a2, a3]) (rm' := rm') at_173 (List.mem_of_getElem? (i := 41) rfl) (List.mem_of_getElem? (i := 42) rfl) (List.mem_of_getElem? (i := 43) rfl) (List.mem_of_getElem? (i := 44) rfl) (by decide) pd6 rfl rfl hM hr h
theorem s0_176 {rm : Room} {S : List Value} {H : AHeap} {Q : Option Value → AHeap → Prop} {l0 l1 l2 l3 l4 l5 l6 l7 l8 l9 : Slot} {x : Int32} (h1 : x = 0 → W0 rm 209 [l0, l1, l2, l3, l4, l5, l6, l7, l8, l9] S H Q) (h2 : ¬ x = 0 → W0 rm 179 [l0, l1, l2, l3, l4, l5, l6, l7, l8, l9] S H Q) : W0 rm 176 [l0, l1, l2, l3, l4, l5, l6, l7, l8, l9] (.int x :: S) H Q := W.ifc at_176 (by decide) (by decide) h1 h2
theorem s0_179 {rm : Room} {S : List Value} {H : AHeap} {Q : Option Value → AHeap → Prop} {l0 l1 l2 l3 l4 l5 l6 l7 l8 : Slot} {i : Nat} (h : W0 rm 181 [l0, l1, l2, l3, l4, l5, l6, l7, l8, .val (.ref i)] (.ref i :: S) (H) Q) : W0 rm 179 [l0, l1, l2, l3, l4, l5, l6, l7, l8, .val (.ref i)] (S) H Q := W.aload at_179 rfl rfl h
theorem s0_179n {rm : Room} {S : List Value} {H : AHeap} {Q : Option Value → AHeap → Prop} {l0 l1 l2 l3 l4 l5 l6 l7 l8 : Slot}  (h : W0 rm 181 [l0, l1, l2, l3, l4, l5, l6, l7, l8, .val .null] (.null :: S) (H) Q) : W0 rm 179 [l0, l1, l2, l3, l4, l5, l6, l7, l8, .val .null] (S) H Q := W.aload at_179 rfl rfl h
theorem s0_181 {rm : Room} {S : List Value} {H : AHeap} {Q : Option Value → AHeap → Prop} {l0 l1 l2 l3 l4 l5 l6 l8 l9 : Slot} {i : Nat} (h : W0 rm 183 [l0, l1, l2, l3, l4, l5, l6, .val (.ref i), l8, l9] (.ref i :: S) (H) Q) : W0 rm 181 [l0, l1, l2, l3, l4, l5, l6, .val (.ref i), l8, l9] (S) H Q := W.aload at_181 rfl rfl h
theorem s0_181n {rm : Room} {S : List Value} {H : AHeap} {Q : Option Value → AHeap → Prop} {l0 l1 l2 l3 l4 l5 l6 l8 l9 : Slot}  (h : W0 rm 183 [l0, l1, l2, l3, l4, l5, l6, .val .null, l8, l9] (.null :: S) (H) Q) : W0 rm 181 [l0, l1, l2, l3, l4, l5, l6, .val .null, l8, l9] (S) H Q := W.aload at_181 rfl rfl h
theorem s0_183 {rm : Room} {S : List Value} {H : AHeap} {Q : Option Value → AHeap → Prop} {l0 l1 l2 l3 l4 l5 l7 l8 l9 : Slot} {x : Int32} (h : W0 rm 185 [l0, l1, l2, l3, l4, l5, .val (.int x), l7, l8, l9] (.int x :: S) (H) Q) : W0 rm 183 [l0, l1, l2, l3, l4, l5, .val (.int x), l7, l8, l9] (S) H Q := W.iload at_183 rfl h
theorem s0_185 {rm : Room} {S : List Value} {H : AHeap} {Q : Option Value → AHeap → Prop} {l0 l1 l2 l3 l4 l5 l6 l7 l8 l9 : Slot}  (h : W0 rm 186 [l0, l1, l2, l3, l4, l5, l6, l7, l8, l9] (.int 3 :: S) (H) Q) : W0 rm 185 [l0, l1, l2, l3, l4, l5, l6, l7, l8, l9] (S) H Q := W.iconst' at_185 (by decide) h
theorem s0_186 {rm : Room} {S : List Value} {H : AHeap} {Q : Option Value → AHeap → Prop} {l0 l1 l2 l3 l4 l5 l6 l7 l8 l9 : Slot} {rm' : Room} {H' : AHeap} {a0 : Nat} {a1 : Nat} {a2 : Int32} {a3 : Int32} {r : Int32} (hM : M7 rm' [.ref a0, .ref a1, .int a2, .int a3] H (Is (some (.int r)) H')) (hr : rok rm rm' 4 S = true) (h : W0 (less rm rm') 189 [l0, l1, l2, l3, l4, l5, l6, l7, l8, l9] (.int r :: S) H' Q) : W0 rm 186 [l0, l1, l2, l3, l4, l5, l6, l7, l8, l9] (.int a3 :: .int a2 :: .ref a1 :: .ref a0 :: S) H Q := W.callS (S := S) (as := [.ref a0, .ref a1, .int a2, .int a3]) (rm' := rm') at_186 (List.mem_of_getElem? (i := 41) rfl) (List.mem_of_getElem? (i := 42) rfl) (List.mem_of_getElem? (i := 43) rfl) (List.mem_of_getElem? (i := 44) rfl) (by decide) pd6 rfl rfl hM hr (fun _ _ q => by obtain ⟨rfl, rfl⟩ := q; exact h)
theorem s0_186q {rm : Room} {S : List Value} {H : AHeap} {Q : Option Value → AHeap → Prop} {l0 l1 l2 l3 l4 l5 l6 l7 l8 l9 : Slot} {rm' : Room} {Q' : Option Value → AHeap → Prop} {a0 a1 a2 a3 : Value} (hM : M7 rm' [a0, a1, a2, a3] H Q') (hr : rok rm rm' 4 S = true) (h : ∀ v H', Q' v H' → W0 (less rm rm') 189 [l0, l1, l2, l3, l4, l5, l6, l7, l8, l9] (v.toList ++ S) H' Q) : W0 rm 186 [l0, l1, l2, l3, l4, l5, l6, l7, l8, l9] (a3 :: a2 :: a1 :: a0 :: S) H Q := W.callS (S := S) (as := [a0, a1, a2, a3]) (rm' := rm') at_186 (List.mem_of_getElem? (i := 41) rfl) (List.mem_of_getElem? (i := 42) rfl) (List.mem_of_getElem? (i := 43) rfl) (List.mem_of_getElem? (i := 44) rfl) (by decide) pd6 rfl rfl hM hr h
theorem s0_189 {rm : Room} {S : List Value} {H : AHeap} {Q : Option Value → AHeap → Prop} {l0 l1 l2 l3 l4 l5 l6 l7 l8 l9 : Slot} {x : Int32} (h1 : x = 0 → W0 rm 209 [l0, l1, l2, l3, l4, l5, l6, l7, l8, l9] S H Q) (h2 : ¬ x = 0 → W0 rm 192 [l0, l1, l2, l3, l4, l5, l6, l7, l8, l9] S H Q) : W0 rm 189 [l0, l1, l2, l3, l4, l5, l6, l7, l8, l9] (.int x :: S) H Q := W.ifc at_189 (by decide) (by decide) h1 h2
theorem s0_192 {rm : Room} {S : List Value} {H : AHeap} {Q : Option Value → AHeap → Prop} {l0 l1 l2 l3 l4 l5 l6 l7 l8 : Slot} {i : Nat} (h : W0 rm 194 [l0, l1, l2, l3, l4, l5, l6, l7, l8, .val (.ref i)] (.ref i :: S) (H) Q) : W0 rm 192 [l0, l1, l2, l3, l4, l5, l6, l7, l8, .val (.ref i)] (S) H Q := W.aload at_192 rfl rfl h
theorem s0_192n {rm : Room} {S : List Value} {H : AHeap} {Q : Option Value → AHeap → Prop} {l0 l1 l2 l3 l4 l5 l6 l7 l8 : Slot}  (h : W0 rm 194 [l0, l1, l2, l3, l4, l5, l6, l7, l8, .val .null] (.null :: S) (H) Q) : W0 rm 192 [l0, l1, l2, l3, l4, l5, l6, l7, l8, .val .null] (S) H Q := W.aload at_192 rfl rfl h
theorem s0_194 {rm : Room} {S : List Value} {H : AHeap} {Q : Option Value → AHeap → Prop} {l0 l1 l2 l3 l4 l5 l6 l8 l9 : Slot} {i : Nat} (h : W0 rm 196 [l0, l1, l2, l3, l4, l5, l6, .val (.ref i), l8, l9] (.ref i :: S) (H) Q) : W0 rm 194 [l0, l1, l2, l3, l4, l5, l6, .val (.ref i), l8, l9] (S) H Q := W.aload at_194 rfl rfl h
theorem s0_194n {rm : Room} {S : List Value} {H : AHeap} {Q : Option Value → AHeap → Prop} {l0 l1 l2 l3 l4 l5 l6 l8 l9 : Slot}  (h : W0 rm 196 [l0, l1, l2, l3, l4, l5, l6, .val .null, l8, l9] (.null :: S) (H) Q) : W0 rm 194 [l0, l1, l2, l3, l4, l5, l6, .val .null, l8, l9] (S) H Q := W.aload at_194 rfl rfl h
theorem s0_196 {rm : Room} {S : List Value} {H : AHeap} {Q : Option Value → AHeap → Prop} {l0 l1 l2 l3 l4 l5 l7 l8 l9 : Slot} {x : Int32} (h : W0 rm 198 [l0, l1, l2, l3, l4, l5, .val (.int x), l7, l8, l9] (.int x :: S) (H) Q) : W0 rm 196 [l0, l1, l2, l3, l4, l5, .val (.int x), l7, l8, l9] (S) H Q := W.iload at_196 rfl h
theorem s0_198 {rm : Room} {S : List Value} {H : AHeap} {Q : Option Value → AHeap → Prop} {l0 l1 l2 l3 l4 l5 l6 l7 l8 l9 : Slot}  (h : W0 rm 199 [l0, l1, l2, l3, l4, l5, l6, l7, l8, l9] (.int 4 :: S) (H) Q) : W0 rm 198 [l0, l1, l2, l3, l4, l5, l6, l7, l8, l9] (S) H Q := W.iconst' at_198 (by decide) h
theorem s0_199 {rm : Room} {S : List Value} {H : AHeap} {Q : Option Value → AHeap → Prop} {l0 l1 l2 l3 l4 l5 l6 l7 l8 l9 : Slot} {rm' : Room} {H' : AHeap} {a0 : Nat} {a1 : Nat} {a2 : Int32} {a3 : Int32} {r : Int32} (hM : M7 rm' [.ref a0, .ref a1, .int a2, .int a3] H (Is (some (.int r)) H')) (hr : rok rm rm' 4 S = true) (h : W0 (less rm rm') 202 [l0, l1, l2, l3, l4, l5, l6, l7, l8, l9] (.int r :: S) H' Q) : W0 rm 199 [l0, l1, l2, l3, l4, l5, l6, l7, l8, l9] (.int a3 :: .int a2 :: .ref a1 :: .ref a0 :: S) H Q := W.callS (S := S) (as := [.ref a0, .ref a1, .int a2, .int a3]) (rm' := rm') at_199 (List.mem_of_getElem? (i := 41) rfl) (List.mem_of_getElem? (i := 42) rfl) (List.mem_of_getElem? (i := 43) rfl) (List.mem_of_getElem? (i := 44) rfl) (by decide) pd6 rfl rfl hM hr (fun _ _ q => by obtain ⟨rfl, rfl⟩ := q; exact h)
theorem s0_199q {rm : Room} {S : List Value} {H : AHeap} {Q : Option Value → AHeap → Prop} {l0 l1 l2 l3 l4 l5 l6 l7 l8 l9 : Slot} {rm' : Room} {Q' : Option Value → AHeap → Prop} {a0 a1 a2 a3 : Value} (hM : M7 rm' [a0, a1, a2, a3] H Q') (hr : rok rm rm' 4 S = true) (h : ∀ v H', Q' v H' → W0 (less rm rm') 202 [l0, l1, l2, l3, l4, l5, l6, l7, l8, l9] (v.toList ++ S) H' Q) : W0 rm 199 [l0, l1, l2, l3, l4, l5, l6, l7, l8, l9] (a3 :: a2 :: a1 :: a0 :: S) H Q := W.callS (S := S) (as := [a0, a1, a2, a3]) (rm' := rm') at_199 (List.mem_of_getElem? (i := 41) rfl) (List.mem_of_getElem? (i := 42) rfl) (List.mem_of_getElem? (i := 43) rfl) (List.mem_of_getElem? (i := 44) rfl) (by decide) pd6 rfl rfl hM hr h
theorem s0_202 {rm : Room} {S : List Value} {H : AHeap} {Q : Option Value → AHeap → Prop} {l0 l1 l2 l3 l4 l5 l6 l7 l8 l9 : Slot} {x : Int32} (h1 : x = 0 → W0 rm 209 [l0, l1, l2, l3, l4, l5, l6, l7, l8, l9] S H Q) (h2 : ¬ x = 0 → W0 rm 205 [l0, l1, l2, l3, l4, l5, l6, l7, l8, l9] S H Q) : W0 rm 202 [l0, l1, l2, l3, l4, l5, l6, l7, l8, l9] (.int x :: S) H Q := W.ifc at_202 (by decide) (by decide) h1 h2
theorem s0_205 {rm : Room} {S : List Value} {H : AHeap} {Q : Option Value → AHeap → Prop} {l0 l1 l2 l3 l4 l5 l6 l7 l8 l9 : Slot}  (h : W0 rm 206 [l0, l1, l2, l3, l4, l5, l6, l7, l8, l9] (.int 1 :: S) (H) Q) : W0 rm 205 [l0, l1, l2, l3, l4, l5, l6, l7, l8, l9] (S) H Q := W.iconst' at_205 (by decide) h
theorem s0_206 {rm : Room} {S : List Value} {H : AHeap} {Q : Option Value → AHeap → Prop} {l0 l1 l2 l3 l4 l5 l6 l7 l8 l9 : Slot}  (h : W0 rm 210 [l0, l1, l2, l3, l4, l5, l6, l7, l8, l9] (S) (H) Q) : W0 rm 206 [l0, l1, l2, l3, l4, l5, l6, l7, l8, l9] (S) H Q := W.goto at_206 (by decide) (by decide) h
theorem s0_209 {rm : Room} {S : List Value} {H : AHeap} {Q : Option Value → AHeap → Prop} {l0 l1 l2 l3 l4 l5 l6 l7 l8 l9 : Slot}  (h : W0 rm 210 [l0, l1, l2, l3, l4, l5, l6, l7, l8, l9] (.int 0 :: S) (H) Q) : W0 rm 209 [l0, l1, l2, l3, l4, l5, l6, l7, l8, l9] (S) H Q := W.iconst' at_209 (by decide) h
theorem s0_210 {rm : Room} {S : List Value} {H : AHeap} {Q : Option Value → AHeap → Prop} {l0 l1 l2 l3 l4 l5 l6 l7 l8 l9 : Slot} {x : Int32} (hQ : Q (some (.int (x &&& 1))) H) : W0 rm 210 [l0, l1, l2, l3, l4, l5, l6, l7, l8, l9] (.int x :: S) H Q := W.ireturnZ at_210 rfl hQ
theorem e1 {rm : Room} {H : AHeap} {Q : Option Value → AHeap → Prop} {a0 : Nat} (h : W1 rm 0 [.val (.ref a0)] [] H Q) : M1 rm [.ref a0] H Q := M.of pf1 rfl rfl h
theorem e1L {rm : Room} {H : AHeap} {Q : Option Value → AHeap → Prop} {L : List Slot} {as : List Value} (h : W1 rm 0 L [] H Q) (hl : ent as ++ List.replicate (1 - (ent as).length) .unset = L := by rfl) (hn : L.length = 1 := by rfl) : M1 rm as H Q := M.of pf1 hl hn h
theorem d1_0 : decode prog_20_method_1_code 0 = .ok (.aload_n 0, 1) := by decide +kernel
theorem s1_0 {rm : Room} {S : List Value} {H : AHeap} {Q : Option Value → AHeap → Prop} {i : Nat} (h : W1 rm 1 [.val (.ref i)] (.ref i :: S) (H) Q) : W1 rm 0 [.val (.ref i)] (S) H Q := W.aload_n d1_0 rfl rfl h
theorem s1_0n {rm : Room} {S : List Value} {H : AHeap} {Q : Option Value → AHeap → Prop}  (h : W1 rm 1 [.val .null] (.null :: S) (H) Q) : W1 rm 0 [.val .null] (S) H Q := W.aload_n d1_0 rfl rfl h
theorem d1_1 : decode prog_20_method_1_code 1 = .ok (.invokespecial 1, 3) := by decide +kernel
theorem s1_1 {rm : Room} {S : List Value} {H : AHeap} {Q : Option Value → AHeap → Prop} {l0 : Slot} {i : Nat} (hr : iok rm S = true) (h : W1 rm 4 [l0] (S) (H) Q) : W1 rm 1 [l0] (.ref i :: S) H Q := W.initO d1_1 (List.mem_of_getElem? (i := 7) rfl) (List.mem_of_getElem? (i := 8) rfl) (List.mem_of_getElem? (i := 9) rfl) hr h
theorem d1_4 : decode prog_20_method_1_code 4 = .ok (.aload_n 0, 1) := by decide +kernel
theorem s1_4 {rm : Room} {S : List Value} {H : AHeap} {Q : Option Value → AHeap → Prop} {i : Nat} (h : W1 rm 5 [.val (.ref i)] (.ref i :: S) (H) Q) : W1 rm 4 [.val (.ref i)] (S) H Q := W.aload_n d1_4 rfl rfl h
theorem s1_4n {rm : Room} {S : List Value} {H : AHeap} {Q : Option Value → AHeap → Prop}  (h : W1 rm 5 [.val .null] (.null :: S) (H) Q) : W1 rm 4 [.val .null] (S) H Q := W.aload_n d1_4 rfl rfl h
theorem d1_5 : decode prog_20_method_1_code 5 = .ok (.bipush 8, 2) := by decide +kernel
theorem s1_5 {rm : Room} {S : List Value} {H : AHeap} {Q : Option Value → AHeap → Prop} {l0 : Slot}  (h : W1 rm 7 [l0] (.int 8 :: S) (H) Q) : W1 rm 5 [l0] (S) H Q := W.bipush' d1_5 (by decide) h
theorem d1_7 : decode prog_20_method_1_code 7 = .ok (.newarray .int, 2) := by decide +kernel
theorem s1_7 {rm : Room} {S : List Value} {H : AHeap} {Q : Option Value → AHeap → Prop} {l0 : Slot} {n : Int32} (i N : Nat) (hn : ix n N) (hi : H.length = i) (hr : nok rm N = true) (h : W1 ⟨rm.frames, rm.cells - 1, rm.slots - N, rm.locals⟩ 9 [l0] (.ref i :: S) (H ++ [.inr (.int, List.replicate N (.int 0))]) Q) : W1 rm 7 [l0] (.int n :: S) H Q := W.newarray (ty := .int) (d := .int 0) d1_7 rfl (List.mem_of_getElem? (i := 0) rfl) rfl hn hi hr h
theorem d1_9 : decode prog_20_method_1_code 9 = .ok (.putfield 7, 3) := by decide +kernel
theorem s1_9 {rm : Room} {S : List Value} {H : AHeap} {Q : Option Value → AHeap → Prop} {l0 : Slot} {i : Nat} {f0 f1 : Value} {x : Nat} (hH : H[i]? = some (.inl (0, [f0, f1]))) (h : W1 rm 12 [l0] (S) (H.set i (.inl (0, [.ref x, f1]))) Q) : W1 rm 9 [l0] (.ref x :: .ref i :: S) H Q := W.putF (c := 0) (j := 0) kt d1_9 (host := "") (Or.inl (List.mem_of_getElem? (i := 10) rfl)) (Or.inl rfl) rfl rfl (Or.inl (List.mem_of_getElem? (i := 11) rfl)) rfl rfl hH h
theorem d1_12 : decode prog_20_method_1_code 12 = .ok (.return_, 1) := by decide +kernel
theorem s1_12 {rm : Room} {H : AHeap} {Q : Option Value → AHeap → Prop} {l0 : Slot} (hQ : Q none H) : W1 rm 12 [l0] [] H Q := W.ret_ d1_12 rfl hQ
theorem e2 {rm : Room} {H : AHeap} {Q : Option Value → AHeap → Prop} {a0 : Nat} (h : W2 rm 0 [.val (.ref a0), .unset, .unset, .unset] [] H Q) : M2 rm [.ref a0] H Q := M.of pf2 rfl rfl h
theorem e2L {rm : Room} {H : AHeap} {Q : Option Value → AHeap → Prop} {L : List Slot} {as : List Value} (h : W2 rm 0 L [] H Q) (hl : ent as ++ List.replicate (4 - (ent as).length) .unset = L := by rfl) (hn : L.length = 4 := by rfl) : M2 rm as H Q := M.of pf2 hl hn h
theorem d2_0 : decode prog_20_method_7_code 0 = .ok (.iconst 0, 1) := by decide +kernel
theorem s2_0 {rm : Room} {S : List Value} {H : AHeap} {Q : Option Value → AHeap → Prop} {l0 l1 l2 l3 : Slot}  (h : W2 rm 1 [l0, l1, l2, l3] (.int 0 :: S) (H) Q) : W2 rm 0 [l0, l1, l2, l3] (S) H Q := W.iconst' d2_0 (by decide) h
theorem d2_1 : decode prog_20_method_7_code 1 = .ok (.istore_n 1, 1) := by decide +kernel
theorem s2_1 {rm : Room} {S : List Value} {H : AHeap} {Q : Option Value → AHeap → Prop} {l0 l1 l2 l3 : Slot} {x : Int32} (ho : one l1 = true) (h : W2 rm 2 [l0, .val (.int x), l2, l3] (S) (H) Q) : W2 rm 1 [l0, l1, l2, l3] (.int x :: S) H Q := W.istore_n d2_1 rfl ho h
theorem s2_1w {rm : Room} {S : List Value} {H : AHeap} {Q : Option Value → AHeap → Prop} {l0 l2 l3 : Slot} {w : Value} {x : Int32} (ho : w.category = 2) (h : W2 rm 2 [l0, .val (.int x), .unset, l3] (S) (H) Q) : W2 rm 1 [l0, .val w, l2, l3] (.int x :: S) H Q := W.istore_nW d2_1 rfl ho (Nat.le_of_ble_eq_true rfl) h
theorem s2_1s {rm : Room} {S : List Value} {H : AHeap} {Q : Option Value → AHeap → Prop} {l0 l2 l3 : Slot} {x : Int32} (h : W2 rm 2 [.unset, .val (.int x), l2, l3] (S) (H) Q) : W2 rm 1 [l0, .second, l2, l3] (.int x :: S) H Q := W.istore_nS d2_1 rfl (by decide) h
theorem d2_2 : decode prog_20_method_7_code 2 = .ok (.aload_n 0, 1) := by decide +kernel
theorem s2_2 {rm : Room} {S : List Value} {H : AHeap} {Q : Option Value → AHeap → Prop} {l1 l2 l3 : Slot} {i : Nat} (h : W2 rm 3 [.val (.ref i), l1, l2, l3] (.ref i :: S) (H) Q) : W2 rm 2 [.val (.ref i), l1, l2, l3] (S) H Q := W.aload_n d2_2 rfl rfl h
theorem s2_2n {rm : Room} {S : List Value} {H : AHeap} {Q : Option Value → AHeap → Prop} {l1 l2 l3 : Slot}  (h : W2 rm 3 [.val .null, l1, l2, l3] (.null :: S) (H) Q) : W2 rm 2 [.val .null, l1, l2, l3] (S) H Q := W.aload_n d2_2 rfl rfl h
theorem d2_3 : decode prog_20_method_7_code 3 = .ok (.getfield 13, 3) := by decide +kernel
theorem s2_3 {rm : Room} {S : List Value} {H : AHeap} {Q : Option Value → AHeap → Prop} {l0 l1 l2 l3 : Slot} {i : Nat} {f0 f1 : Value} (hH : H[i]? = some (.inl (0, [f0, f1]))) (h : W2 rm 6 [l0, l1, l2, l3] (f1 :: S) (H) Q) : W2 rm 3 [l0, l1, l2, l3] (.ref i :: S) H Q := W.getF (c := 0) (j := 1) d2_3 (host := "") (Or.inl (List.mem_of_getElem? (i := 17) rfl)) (Or.inl rfl) rfl rfl hH rfl h
theorem d2_6 : decode prog_20_method_7_code 6 = .ok (.iconst 1, 1) := by decide +kernel
theorem s2_6 {rm : Room} {S : List Value} {H : AHeap} {Q : Option Value → AHeap → Prop} {l0 l1 l2 l3 : Slot}  (h : W2 rm 7 [l0, l1, l2, l3] (.int 1 :: S) (H) Q) : W2 rm 6 [l0, l1, l2, l3] (S) H Q := W.iconst' d2_6 (by decide) h
theorem d2_7 : decode prog_20_method_7_code 7 = .ok (.isub, 1) := by decide +kernel
theorem s2_7 {rm : Room} {S : List Value} {H : AHeap} {Q : Option Value → AHeap → Prop} {l0 l1 l2 l3 : Slot} {x y : Int32} (h : W2 rm 8 [l0, l1, l2, l3] (.int (x - y) :: S) (H) Q) : W2 rm 7 [l0, l1, l2, l3] (.int y :: .int x :: S) H Q := W.isub d2_7 h
theorem d2_8 : decode prog_20_method_7_code 8 = .ok (.istore_n 2, 1) := by decide +kernel
theorem s2_8 {rm : Room} {S : List Value} {H : AHeap} {Q : Option Value → AHeap → Prop} {l0 l1 l2 l3 : Slot} {x : Int32} (ho : one l2 = true) (h : W2 rm 9 [l0, l1, .val (.int x), l3] (S) (H) Q) : W2 rm 8 [l0, l1, l2, l3] (.int x :: S) H Q := W.istore_n d2_8 rfl ho h
theorem s2_8w {rm : Room} {S : List Value} {H : AHeap} {Q : Option Value → AHeap → Prop} {l0 l1 l3 : Slot} {w : Value} {x : Int32} (ho : w.category = 2) (h : W2 rm 9 [l0, l1, .val (.int x), .unset] (S) (H) Q) : W2 rm 8 [l0, l1, .val w, l3] (.int x :: S) H Q := W.istore_nW d2_8 rfl ho (Nat.le_of_ble_eq_true rfl) h
theorem s2_8s {rm : Room} {S : List Value} {H : AHeap} {Q : Option Value → AHeap → Prop} {l0 l1 l3 : Slot} {x : Int32} (h : W2 rm 9 [l0, .unset, .val (.int x), l3] (S) (H) Q) : W2 rm 8 [l0, l1, .second, l3] (.int x :: S) H Q := W.istore_nS d2_8 rfl (by decide) h
theorem d2_9 : decode prog_20_method_7_code 9 = .ok (.iload_n 1, 1) := by decide +kernel
theorem s2_9 {rm : Room} {S : List Value} {H : AHeap} {Q : Option Value → AHeap → Prop} {l0 l2 l3 : Slot} {x : Int32} (h : W2 rm 10 [l0, .val (.int x), l2, l3] (.int x :: S) (H) Q) : W2 rm 9 [l0, .val (.int x), l2, l3] (S) H Q := W.iload_n d2_9 rfl h
theorem d2_10 : decode prog_20_method_7_code 10 = .ok (.iload_n 2, 1) := by decide +kernel
theorem s2_10 {rm : Room} {S : List Value} {H : AHeap} {Q : Option Value → AHeap → Prop} {l0 l1 l3 : Slot} {x : Int32} (h : W2 rm 11 [l0, l1, .val (.int x), l3] (.int x :: S) (H) Q) : W2 rm 10 [l0, l1, .val (.int x), l3] (S) H Q := W.iload_n d2_10 rfl h
theorem d2_11 : decode prog_20_method_7_code 11 = .ok (.if_icmp .ge 38, 3) := by decide +kernel
theorem s2_11 {rm : Room} {S : List Value} {H : AHeap} {Q : Option Value → AHeap → Prop} {l0 l1 l2 l3 : Slot} {x y : Int32} (h1 : ¬ x < y → W2 rm 49 [l0, l1, l2, l3] S H Q) (h2 : x < y → W2 rm 14 [l0, l1, l2, l3] S H Q) : W2 rm 11 [l0, l1, l2, l3] (.int y :: .int x :: S) H Q := W.icmp d2_11 (by decide) (by decide) h1 h2
theorem d2_14 : decode prog_20_method_7_code 14 = .ok (.aload_n 0, 1) := by decide +kernel
theorem s2_14 {rm : Room} {S : List Value} {H : AHeap} {Q : Option Value → AHeap → Prop} {l1 l2 l3 : Slot} {i : Nat} (h : W2 rm 15 [.val (.ref i), l1, l2, l3] (.ref i :: S) (H) Q) : W2 rm 14 [.val (.ref i), l1, l2, l3] (S) H Q := W.aload_n d2_14 rfl rfl h
theorem s2_14n {rm : Room} {S : List Value} {H : AHeap} {Q : Option Value → AHeap → Prop} {l1 l2 l3 : Slot}  (h : W2 rm 15 [.val .null, l1, l2, l3] (.null :: S) (H) Q) : W2 rm 14 [.val .null, l1, l2, l3] (S) H Q := W.aload_n d2_14 rfl rfl h
theorem d2_15 : decode prog_20_method_7_code 15 = .ok (.getfield 7, 3) := by decide +kernel
theorem s2_15 {rm : Room} {S : List Value} {H : AHeap} {Q : Option Value → AHeap → Prop} {l0 l1 l2 l3 : Slot} {i : Nat} {f0 f1 : Value} (hH : H[i]? = some (.inl (0, [f0, f1]))) (h : W2 rm 18 [l0, l1, l2, l3] (f0 :: S) (H) Q) : W2 rm 15 [l0, l1, l2, l3] (.ref i :: S) H Q := W.getF (c := 0) (j := 0) d2_15 (host := "") (Or.inl (List.mem_of_getElem? (i := 10) rfl)) (Or.inl rfl) rfl rfl hH rfl h
theorem d2_18 : decode prog_20_method_7_code 18 = .ok (.iload_n 1, 1) := by decide +kernel
theorem s2_18 {rm : Room} {S : List Value} {H : AHeap} {Q : Option Value → AHeap → Prop} {l0 l2 l3 : Slot} {x : Int32} (h : W2 rm 19 [l0, .val (.int x), l2, l3] (.int x :: S) (H) Q) : W2 rm 18 [l0, .val (.int x), l2, l3] (S) H Q := W.iload_n d2_18 rfl h
theorem d2_19 : decode prog_20_method_7_code 19 = .ok (.iaload, 1) := by decide +kernel
theorem s2_19 {rm : Room} {S : List Value} {H : AHeap} {Q : Option Value → AHeap → Prop} {l0 l1 l2 l3 : Slot} {i : Nat} {j : Int32} {vs : List Value} {v : Value} (N : Nat) (hH : H[i]? = some (.inr (.int, vs))) (hj : ix j N) (hv : vs[N]? = some v) (h : W2 rm 20 [l0, l1, l2, l3] (v :: S) (H) Q) : W2 rm 19 [l0, l1, l2, l3] (.int j :: .ref i :: S) H Q := W.xaload (Or.inl ⟨rfl, rfl⟩) d2_19 hH hj hv h
theorem d2_20 : decode prog_20_method_7_code 20 = .ok (.istore_n 3, 1) := by decide +kernel
theorem s2_20 {rm : Room} {S : List Value} {H : AHeap} {Q : Option Value → AHeap → Prop} {l0 l1 l2 l3 : Slot} {x : Int32} (ho : one l3 = true) (h : W2 rm 21 [l0, l1, l2, .val (.int x)] (S) (H) Q) : W2 rm 20 [l0, l1, l2, l3] (.int x :: S) H Q := W.istore_n d2_20 rfl ho h
theorem s2_20s {rm : Room} {S : List Value} {H : AHeap} {Q : Option Value → AHeap → Prop} {l0 l1 l2 : Slot} {x : Int32} (h : W2 rm 21 [l0, l1, .unset, .val (.int x)] (S) (H) Q) : W2 rm 20 [l0, l1, l2, .second] (.int x :: S) H Q := W.istore_nS d2_20 rfl (by decide) h
theorem d2_21 : decode prog_20_method_7_code 21 = .ok (.aload_n 0, 1) := by decide +kernel
theorem s2_21 {rm : Room} {S : List Value} {H : AHeap} {Q : Option Value → AHeap → Prop} {l1 l2 l3 : Slot} {i : Nat} (h : W2 rm 22 [.val (.ref i), l1, l2, l3] (.ref i :: S) (H) Q) : W2 rm 21 [.val (.ref i), l1, l2, l3] (S) H Q := W.aload_n d2_21 rfl rfl h
theorem s2_21n {rm : Room} {S : List Value} {H : AHeap} {Q : Option Value → AHeap → Prop} {l1 l2 l3 : Slot}  (h : W2 rm 22 [.val .null, l1, l2, l3] (.null :: S) (H) Q) : W2 rm 21 [.val .null, l1, l2, l3] (S) H Q := W.aload_n d2_21 rfl rfl h
theorem d2_22 : decode prog_20_method_7_code 22 = .ok (.getfield 7, 3) := by decide +kernel
theorem s2_22 {rm : Room} {S : List Value} {H : AHeap} {Q : Option Value → AHeap → Prop} {l0 l1 l2 l3 : Slot} {i : Nat} {f0 f1 : Value} (hH : H[i]? = some (.inl (0, [f0, f1]))) (h : W2 rm 25 [l0, l1, l2, l3] (f0 :: S) (H) Q) : W2 rm 22 [l0, l1, l2, l3] (.ref i :: S) H Q := W.getF (c := 0) (j := 0) d2_22 (host := "") (Or.inl (List.mem_of_getElem? (i := 10) rfl)) (Or.inl rfl) rfl rfl hH rfl h
theorem d2_25 : decode prog_20_method_7_code 25 = .ok (.iload_n 1, 1) := by decide +kernel
theorem s2_25 {rm : Room} {S : List Value} {H : AHeap} {Q : Option Value → AHeap → Prop} {l0 l2 l3 : Slot} {x : Int32} (h : W2 rm 26 [l0, .val (.int x), l2, l3] (.int x :: S) (H) Q) : W2 rm 25 [l0, .val (.int x), l2, l3] (S) H Q := W.iload_n d2_25 rfl h
theorem d2_26 : decode prog_20_method_7_code 26 = .ok (.aload_n 0, 1) := by decide +kernel
theorem s2_26 {rm : Room} {S : List Value} {H : AHeap} {Q : Option Value → AHeap → Prop} {l1 l2 l3 : Slot} {i : Nat} (h : W2 rm 27 [.val (.ref i), l1, l2, l3] (.ref i :: S) (H) Q) : W2 rm 26 [.val (.ref i), l1, l2, l3] (S) H Q := W.aload_n d2_26 rfl rfl h
theorem s2_26n {rm : Room} {S : List Value} {H : AHeap} {Q : Option Value → AHeap → Prop} {l1 l2 l3 : Slot}  (h : W2 rm 27 [.val .null, l1, l2, l3] (.null :: S) (H) Q) : W2 rm 26 [.val .null, l1, l2, l3] (S) H Q := W.aload_n d2_26 rfl rfl h
theorem d2_27 : decode prog_20_method_7_code 27 = .ok (.getfield 7, 3) := by decide +kernel
theorem s2_27 {rm : Room} {S : List Value} {H : AHeap} {Q : Option Value → AHeap → Prop} {l0 l1 l2 l3 : Slot} {i : Nat} {f0 f1 : Value} (hH : H[i]? = some (.inl (0, [f0, f1]))) (h : W2 rm 30 [l0, l1, l2, l3] (f0 :: S) (H) Q) : W2 rm 27 [l0, l1, l2, l3] (.ref i :: S) H Q := W.getF (c := 0) (j := 0) d2_27 (host := "") (Or.inl (List.mem_of_getElem? (i := 10) rfl)) (Or.inl rfl) rfl rfl hH rfl h
theorem d2_30 : decode prog_20_method_7_code 30 = .ok (.iload_n 2, 1) := by decide +kernel
theorem s2_30 {rm : Room} {S : List Value} {H : AHeap} {Q : Option Value → AHeap → Prop} {l0 l1 l3 : Slot} {x : Int32} (h : W2 rm 31 [l0, l1, .val (.int x), l3] (.int x :: S) (H) Q) : W2 rm 30 [l0, l1, .val (.int x), l3] (S) H Q := W.iload_n d2_30 rfl h
theorem d2_31 : decode prog_20_method_7_code 31 = .ok (.iaload, 1) := by decide +kernel
theorem s2_31 {rm : Room} {S : List Value} {H : AHeap} {Q : Option Value → AHeap → Prop} {l0 l1 l2 l3 : Slot} {i : Nat} {j : Int32} {vs : List Value} {v : Value} (N : Nat) (hH : H[i]? = some (.inr (.int, vs))) (hj : ix j N) (hv : vs[N]? = some v) (h : W2 rm 32 [l0, l1, l2, l3] (v :: S) (H) Q) : W2 rm 31 [l0, l1, l2, l3] (.int j :: .ref i :: S) H Q := W.xaload (Or.inl ⟨rfl, rfl⟩) d2_31 hH hj hv h
theorem d2_32 : decode prog_20_method_7_code 32 = .ok (.iastore, 1) := by decide +kernel
theorem s2_32 {rm : Room} {S : List Value} {H : AHeap} {Q : Option Value → AHeap → Prop} {l0 l1 l2 l3 : Slot} {i : Nat} {j : Int32} {x : Int32} {vs : List Value} (N : Nat) (hH : H[i]? = some (.inr (.int, vs))) (hj : ix j N) (hl : Nat.blt N vs.length = true) (h : W2 rm 33 [l0, l1, l2, l3] (S) (H.set i (.inr (.int, vs.set N (.int x)))) Q) : W2 rm 32 [l0, l1, l2, l3] (.int x :: .int j :: .ref i :: S) H Q := W.iastore d2_32 hH hj hl h
theorem d2_33 : decode prog_20_method_7_code 33 = .ok (.aload_n 0, 1) := by decide +kernel
theorem s2_33 {rm : Room} {S : List Value} {H : AHeap} {Q : Option Value → AHeap → Prop} {l1 l2 l3 : Slot} {i : Nat} (h : W2 rm 34 [.val (.ref i), l1, l2, l3] (.ref i :: S) (H) Q) : W2 rm 33 [.val (.ref i), l1, l2, l3] (S) H Q := W.aload_n d2_33 rfl rfl h
theorem s2_33n {rm : Room} {S : List Value} {H : AHeap} {Q : Option Value → AHeap → Prop} {l1 l2 l3 : Slot}  (h : W2 rm 34 [.val .null, l1, l2, l3] (.null :: S) (H) Q) : W2 rm 33 [.val .null, l1, l2, l3] (S) H Q := W.aload_n d2_33 rfl rfl h
theorem d2_34 : decode prog_20_method_7_code 34 = .ok (.getfield 7, 3) := by decide +kernel
theorem s2_34 {rm : Room} {S : List Value} {H : AHeap} {Q : Option Value → AHeap → Prop} {l0 l1 l2 l3 : Slot} {i : Nat} {f0 f1 : Value} (hH : H[i]? = some (.inl (0, [f0, f1]))) (h : W2 rm 37 [l0, l1, l2, l3] (f0 :: S) (H) Q) : W2 rm 34 [l0, l1, l2, l3] (.ref i :: S) H Q := W.getF (c := 0) (j := 0) d2_34 (host := "") (Or.inl (List.mem_of_getElem? (i := 10) rfl)) (Or.inl rfl) rfl rfl hH rfl h
theorem d2_37 : decode prog_20_method_7_code 37 = .ok (.iload_n 2, 1) := by decide +kernel
theorem s2_37 {rm : Room} {S : List Value} {H : AHeap} {Q : Option Value → AHeap → Prop} {l0 l1 l3 : Slot} {x : Int32} (h : W2 rm 38 [l0, l1, .val (.int x), l3] (.int x :: S) (H) Q) : W2 rm 37 [l0, l1, .val (.int x), l3] (S) H Q := W.iload_n d2_37 rfl h
theorem d2_38 : decode prog_20_method_7_code 38 = .ok (.iload_n 3, 1) := by decide +kernel
theorem s2_38 {rm : Room} {S : List Value} {H : AHeap} {Q : Option Value → AHeap → Prop} {l0 l1 l2 : Slot} {x : Int32} (h : W2 rm 39 [l0, l1, l2, .val (.int x)] (.int x :: S) (H) Q) : W2 rm 38 [l0, l1, l2, .val (.int x)] (S) H Q := W.iload_n d2_38 rfl h
theorem d2_39 : decode prog_20_method_7_code 39 = .ok (.iastore, 1) := by decide +kernel
theorem s2_39 {rm : Room} {S : List Value} {H : AHeap} {Q : Option Value → AHeap → Prop} {l0 l1 l2 l3 : Slot} {i : Nat} {j : Int32} {x : Int32} {vs : List Value} (N : Nat) (hH : H[i]? = some (.inr (.int, vs))) (hj : ix j N) (hl : Nat.blt N vs.length = true) (h : W2 rm 40 [l0, l1, l2, l3] (S) (H.set i (.inr (.int, vs.set N (.int x)))) Q) : W2 rm 39 [l0, l1, l2, l3] (.int x :: .int j :: .ref i :: S) H Q := W.iastore d2_39 hH hj hl h
theorem d2_40 : decode prog_20_method_7_code 40 = .ok (.iinc 1 1, 3) := by decide +kernel
theorem s2_40 {rm : Room} {S : List Value} {H : AHeap} {Q : Option Value → AHeap → Prop} {l0 l2 l3 : Slot} {x : Int32} (h : W2 rm 43 [l0, .val (.int (x + 1)), l2, l3] (S) (H) Q) : W2 rm 40 [l0, .val (.int x), l2, l3] (S) H Q := W.iinc d2_40 (by decide) rfl h
theorem d2_43 : decode prog_20_method_7_code 43 = .ok (.iinc 2 (-1), 3) := by decide +kernel
theorem s2_43 {rm : Room} {S : List Value} {H : AHeap} {Q : Option Value → AHeap → Prop} {l0 l1 l3 : Slot} {x : Int32} (h : W2 rm 46 [l0, l1, .val (.int (x + (-1))), l3] (S) (H) Q) : W2 rm 43 [l0, l1, .val (.int x), l3] (S) H Q := W.iinc d2_43 (by decide) rfl h
theorem d2_46 : decode prog_20_method_7_code 46 = .ok (.goto (-37), 3) := by decide +kernel
theorem s2_46 {rm : Room} {S : List Value} {H : AHeap} {Q : Option Value → AHeap → Prop} {l0 l1 l2 l3 : Slot}  (h : W2 rm 9 [l0, l1, l2, l3] (S) (H) Q) : W2 rm 46 [l0, l1, l2, l3] (S) H Q := W.goto d2_46 (by decide) (by decide) h
theorem d2_49 : decode prog_20_method_7_code 49 = .ok (.return_, 1) := by decide +kernel
theorem s2_49 {rm : Room} {H : AHeap} {Q : Option Value → AHeap → Prop} {l0 l1 l2 l3 : Slot} (hQ : Q none H) : W2 rm 49 [l0, l1, l2, l3] [] H Q := W.ret_ d2_49 rfl hQ
theorem e3 {rm : Room} {H : AHeap} {Q : Option Value → AHeap → Prop} {a0 : Nat} (h : W3 rm 0 [.val (.ref a0)] [] H Q) : M3 rm [.ref a0] H Q := M.of pf3 rfl rfl h
theorem e3L {rm : Room} {H : AHeap} {Q : Option Value → AHeap → Prop} {L : List Slot} {as : List Value} (h : W3 rm 0 L [] H Q) (hl : ent as ++ List.replicate (1 - (ent as).length) .unset = L := by rfl) (hn : L.length = 1 := by rfl) : M3 rm as H Q := M.of pf3 hl hn h
theorem d3_0 : decode prog_20_method_2_code 0 = .ok (.aload_n 0, 1) := by decide +kernel
theorem s3_0 {rm : Room} {S : List Value} {H : AHeap} {Q : Option Value → AHeap → Prop} {i : Nat} (h : W3 rm 1 [.val (.ref i)] (.ref i :: S) (H) Q) : W3 rm 0 [.val (.ref i)] (S) H Q := W.aload_n d3_0 rfl rfl h
theorem s3_0n {rm : Room} {S : List Value} {H : AHeap} {Q : Option Value → AHeap → Prop}  (h : W3 rm 1 [.val .null] (.null :: S) (H) Q) : W3 rm 0 [.val .null] (S) H Q := W.aload_n d3_0 rfl rfl h
theorem d3_1 : decode prog_20_method_2_code 1 = .ok (.getfield 13, 3) := by decide +kernel
theorem s3_1 {rm : Room} {S : List Value} {H : AHeap} {Q : Option Value → AHeap → Prop} {l0 : Slot} {i : Nat} {f0 f1 : Value} (hH : H[i]? = some (.inl (0, [f0, f1]))) (h : W3 rm 4 [l0] (f1 :: S) (H) Q) : W3 rm 1 [l0] (.ref i :: S) H Q := W.getF (c := 0) (j := 1) d3_1 (host := "") (Or.inl (List.mem_of_getElem? (i := 17) rfl)) (Or.inl rfl) rfl rfl hH rfl h
theorem d3_4 : decode prog_20_method_2_code 4 = .ok (.ireturn, 1) := by decide +kernel
theorem s3_4 {rm : Room} {S : List Value} {H : AHeap} {Q : Option Value → AHeap → Prop} {l0 : Slot} {x : Int32} (hQ : Q (some (.int x)) H) : W3 rm 4 [l0] (.int x :: S) H Q := W.ireturn d3_4 rfl hQ
theorem e4 {rm : Room} {H : AHeap} {Q : Option Value → AHeap → Prop} {a0 : Nat} (h : W4 rm 0 [.val (.ref a0)] [] H Q) : M4 rm [.ref a0] H Q := M.of pf4 rfl rfl h
theorem e4L {rm : Room} {H : AHeap} {Q : Option Value → AHeap → Prop} {L : List Slot} {as : List Value} (h : W4 rm 0 L [] H Q) (hl : ent as ++ List.replicate (1 - (ent as).length) .unset = L := by rfl) (hn : L.length = 1 := by rfl) : M4 rm as H Q := M.of pf4 hl hn h
theorem d4_0 : decode prog_20_method_8_code 0 = .ok (.aload_n 0, 1) := by decide +kernel
theorem s4_0 {rm : Room} {S : List Value} {H : AHeap} {Q : Option Value → AHeap → Prop} {i : Nat} (h : W4 rm 1 [.val (.ref i)] (.ref i :: S) (H) Q) : W4 rm 0 [.val (.ref i)] (S) H Q := W.aload_n d4_0 rfl rfl h
theorem s4_0n {rm : Room} {S : List Value} {H : AHeap} {Q : Option Value → AHeap → Prop}  (h : W4 rm 1 [.val .null] (.null :: S) (H) Q) : W4 rm 0 [.val .null] (S) H Q := W.aload_n d4_0 rfl rfl h
theorem d4_1 : decode prog_20_method_8_code 1 = .ok (.getfield 7, 3) := by decide +kernel
theorem s4_1 {rm : Room} {S : List Value} {H : AHeap} {Q : Option Value → AHeap → Prop} {l0 : Slot} {i : Nat} {f0 f1 : Value} (hH : H[i]? = some (.inl (0, [f0, f1]))) (h : W4 rm 4 [l0] (f0 :: S) (H) Q) : W4 rm 1 [l0] (.ref i :: S) H Q := W.getF (c := 0) (j := 0) d4_1 (host := "") (Or.inl (List.mem_of_getElem? (i := 10) rfl)) (Or.inl rfl) rfl rfl hH rfl h
theorem d4_4 : decode prog_20_method_8_code 4 = .ok (.aload_n 0, 1) := by decide +kernel
theorem s4_4 {rm : Room} {S : List Value} {H : AHeap} {Q : Option Value → AHeap → Prop} {i : Nat} (h : W4 rm 5 [.val (.ref i)] (.ref i :: S) (H) Q) : W4 rm 4 [.val (.ref i)] (S) H Q := W.aload_n d4_4 rfl rfl h
theorem s4_4n {rm : Room} {S : List Value} {H : AHeap} {Q : Option Value → AHeap → Prop}  (h : W4 rm 5 [.val .null] (.null :: S) (H) Q) : W4 rm 4 [.val .null] (S) H Q := W.aload_n d4_4 rfl rfl h
theorem d4_5 : decode prog_20_method_8_code 5 = .ok (.getfield 13, 3) := by decide +kernel
theorem s4_5 {rm : Room} {S : List Value} {H : AHeap} {Q : Option Value → AHeap → Prop} {l0 : Slot} {i : Nat} {f0 f1 : Value} (hH : H[i]? = some (.inl (0, [f0, f1]))) (h : W4 rm 8 [l0] (f1 :: S) (H) Q) : W4 rm 5 [l0] (.ref i :: S) H Q := W.getF (c := 0) (j := 1) d4_5 (host := "") (Or.inl (List.mem_of_getElem? (i := 17) rfl)) (Or.inl rfl) rfl rfl hH rfl h
theorem d4_8 : decode prog_20_method_8_code 8 = .ok (.invokestatic 17, 3) := by decide +kernel
theorem s4_8 {rm : Room} {S : List Value} {H : AHeap} {Q : Option Value → AHeap → Prop} {l0 : Slot} {rm' : Room} {H' : AHeap} {a0 : Nat} {a1 : Int32} {r : Nat} (hM : M5 rm' [.ref a0, .int a1] H (Is (some (.ref r)) H')) (hr : rok rm rm' 3 S = true) (h : W4 (less rm rm') 11 [l0] (.ref r :: S) H' Q) : W4 rm 8 [l0] (.int a1 :: .ref a0 :: S) H Q := W.callS (S := S) (as := [.ref a0, .int a1]) (rm' := rm') d4_8 (List.mem_of_getElem? (i := 29) rfl) (List.mem_of_getElem? (i := 30) rfl) (List.mem_of_getElem? (i := 31) rfl) (List.mem_of_getElem? (i := 32) rfl) (by decide) pd4 rfl rfl hM hr (fun _ _ q => by obtain ⟨rfl, rfl⟩ := q; exact h)
theorem s4_8q {rm : Room} {S : List Value} {H : AHeap} {Q : Option Value → AHeap → Prop} {l0 : Slot} {rm' : Room} {Q' : Option Value → AHeap → Prop} {a0 a1 : Value} (hM : M5 rm' [a0, a1] H Q') (hr : rok rm rm' 3 S = true) (h : ∀ v H', Q' v H' → W4 (less rm rm') 11 [l0] (v.toList ++ S) H' Q) : W4 rm 8 [l0] (a1 :: a0 :: S) H Q := W.callS (S := S) (as := [a0, a1]) (rm' := rm') d4_8 (List.mem_of_getElem? (i := 29) rfl) (List.mem_of_getElem? (i := 30) rfl) (List.mem_of_getElem? (i := 31) rfl) (List.mem_of_getElem? (i := 32) rfl) (by decide) pd4 rfl rfl hM hr h
theorem d4_11 : decode prog_20_method_8_code 11 = .ok (.areturn, 1) := by decide +kernel
theorem s4_11 {rm : Room} {S : List Value} {H : AHeap} {Q : Option Value → AHeap → Prop} {l0 : Slot} {i : Nat} (hQ : Q (some (.ref i)) H) : W4 rm 11 [l0] (.ref i :: S) H Q := W.areturn d4_11 rfl rfl rfl hQ
theorem e5 {rm : Room} {H : AHeap} {Q : Option Value → AHeap → Prop} {a0 : Nat} {a1 : Int32} (h : W5 rm 0 [.val (.ref a0), .val (.int a1), .unset] [] H Q) : M5 rm [.ref a0, .int a1] H Q := M.of pf5 rfl rfl h
theorem e5L {rm : Room} {H : AHeap} {Q : Option Value → AHeap → Prop} {L : List Slot} {as : List Value} (h : W5 rm 0 L [] H Q) (hl : ent as ++ List.replicate (3 - (ent as).length) .unset = L := by rfl) (hn : L.length = 3 := by rfl) : M5 rm as H Q := M.of pf5 hl hn h
theorem d5_0 : decode jdk_65_method_123_code 0 = .ok (.iload_n 1, 1) := by decide +kernel
theorem s5_0 {rm : Room} {S : List Value} {H : AHeap} {Q : Option Value → AHeap → Prop} {l0 l2 : Slot} {x : Int32} (h : W5 rm 1 [l0, .val (.int x), l2] (.int x :: S) (H) Q) : W5 rm 0 [l0, .val (.int x), l2] (S) H Q := W.iload_n d5_0 rfl h
theorem d5_1 : decode jdk_65_method_123_code 1 = .ok (.aload_n 0, 1) := by decide +kernel
theorem s5_1 {rm : Room} {S : List Value} {H : AHeap} {Q : Option Value → AHeap → Prop} {l1 l2 : Slot} {i : Nat} (h : W5 rm 2 [.val (.ref i), l1, l2] (.ref i :: S) (H) Q) : W5 rm 1 [.val (.ref i), l1, l2] (S) H Q := W.aload_n d5_1 rfl rfl h
theorem s5_1n {rm : Room} {S : List Value} {H : AHeap} {Q : Option Value → AHeap → Prop} {l1 l2 : Slot}  (h : W5 rm 2 [.val .null, l1, l2] (.null :: S) (H) Q) : W5 rm 1 [.val .null, l1, l2] (S) H Q := W.aload_n d5_1 rfl rfl h
theorem d5_2 : decode jdk_65_method_123_code 2 = .ok (.arraylength, 1) := by decide +kernel
theorem s5_2 {rm : Room} {S : List Value} {H : AHeap} {Q : Option Value → AHeap → Prop} {l0 l1 l2 : Slot} {i : Nat} {ty : FieldType} {vs : List Value} (hH : H[i]? = some (.inr (ty, vs))) (h : W5 rm 3 [l0, l1, l2] (.int (Int32.ofNat vs.length) :: S) (H) Q) : W5 rm 2 [l0, l1, l2] (.ref i :: S) H Q := W.arraylength d5_2 hH h
theorem s5_2k {rm : Room} {S : List Value} {H : AHeap} {Q : Option Value → AHeap → Prop} {l0 l1 l2 : Slot} {i : Nat} {ty : FieldType} {vs : List Value} (n : Int32) (hH : H[i]? = some (.inr (ty, vs))) (hn : Int32.ofNat vs.length = n) (h : W5 rm 3 [l0, l1, l2] (.int n :: S) (H) Q) : W5 rm 2 [l0, l1, l2] (.ref i :: S) H Q := W.arraylength d5_2 hH (by rw [hn]; exact h)
theorem d5_3 : decode jdk_65_method_123_code 3 = .ok (.if_icmp .ne 11, 3) := by decide +kernel
theorem s5_3 {rm : Room} {S : List Value} {H : AHeap} {Q : Option Value → AHeap → Prop} {l0 l1 l2 : Slot} {x y : Int32} (h1 : ¬ x = y → W5 rm 14 [l0, l1, l2] S H Q) (h2 : x = y → W5 rm 6 [l0, l1, l2] S H Q) : W5 rm 3 [l0, l1, l2] (.int y :: .int x :: S) H Q := W.icmp d5_3 (by decide) (by decide) h1 h2
theorem d5_6 : decode jdk_65_method_123_code 6 = .ok (.aload_n 0, 1) := by decide +kernel
theorem s5_6 {rm : Room} {S : List Value} {H : AHeap} {Q : Option Value → AHeap → Prop} {l1 l2 : Slot} {i : Nat} (h : W5 rm 7 [.val (.ref i), l1, l2] (.ref i :: S) (H) Q) : W5 rm 6 [.val (.ref i), l1, l2] (S) H Q := W.aload_n d5_6 rfl rfl h
theorem s5_6n {rm : Room} {S : List Value} {H : AHeap} {Q : Option Value → AHeap → Prop} {l1 l2 : Slot}  (h : W5 rm 7 [.val .null, l1, l2] (.null :: S) (H) Q) : W5 rm 6 [.val .null, l1, l2] (S) H Q := W.aload_n d5_6 rfl rfl h
theorem d5_7 : decode jdk_65_method_123_code 7 = .ok (.invokevirtual 316, 3) := by decide +kernel
theorem d5_10 : decode jdk_65_method_123_code 10 = .ok (.checkcast 317, 3) := by decide +kernel
-- TODO checkcast at s5_10: .checkcast 317
theorem d5_13 : decode jdk_65_method_123_code 13 = .ok (.areturn, 1) := by decide +kernel
theorem s5_13 {rm : Room} {S : List Value} {H : AHeap} {Q : Option Value → AHeap → Prop} {l0 l1 l2 : Slot} {i : Nat} (hQ : Q (some (.ref i)) H) : W5 rm 13 [l0, l1, l2] (.ref i :: S) H Q := W.areturn d5_13 rfl rfl rfl hQ
theorem d5_14 : decode jdk_65_method_123_code 14 = .ok (.iload_n 1, 1) := by decide +kernel
theorem s5_14 {rm : Room} {S : List Value} {H : AHeap} {Q : Option Value → AHeap → Prop} {l0 l2 : Slot} {x : Int32} (h : W5 rm 15 [l0, .val (.int x), l2] (.int x :: S) (H) Q) : W5 rm 14 [l0, .val (.int x), l2] (S) H Q := W.iload_n d5_14 rfl h
theorem d5_15 : decode jdk_65_method_123_code 15 = .ok (.newarray .int, 2) := by decide +kernel
theorem s5_15 {rm : Room} {S : List Value} {H : AHeap} {Q : Option Value → AHeap → Prop} {l0 l1 l2 : Slot} {n : Int32} (i N : Nat) (hn : ix n N) (hi : H.length = i) (hr : nok rm N = true) (h : W5 ⟨rm.frames, rm.cells - 1, rm.slots - N, rm.locals⟩ 17 [l0, l1, l2] (.ref i :: S) (H ++ [.inr (.int, List.replicate N (.int 0))]) Q) : W5 rm 15 [l0, l1, l2] (.int n :: S) H Q := W.newarray (ty := .int) (d := .int 0) d5_15 rfl (List.mem_of_getElem? (i := 0) rfl) rfl hn hi hr h
theorem d5_17 : decode jdk_65_method_123_code 17 = .ok (.astore_n 2, 1) := by decide +kernel
theorem s5_17 {rm : Room} {S : List Value} {H : AHeap} {Q : Option Value → AHeap → Prop} {l0 l1 l2 : Slot} {i : Nat} (ho : one l2 = true) (h : W5 rm 18 [l0, l1, .val (.ref i)] (S) (H) Q) : W5 rm 17 [l0, l1, l2] (.ref i :: S) H Q := W.astore_n d5_17 rfl ho rfl h
theorem d5_18 : decode jdk_65_method_123_code 18 = .ok (.aload_n 0, 1) := by decide +kernel
theorem s5_18 {rm : Room} {S : List Value} {H : AHeap} {Q : Option Value → AHeap → Prop} {l1 l2 : Slot} {i : Nat} (h : W5 rm 19 [.val (.ref i), l1, l2] (.ref i :: S) (H) Q) : W5 rm 18 [.val (.ref i), l1, l2] (S) H Q := W.aload_n d5_18 rfl rfl h
theorem s5_18n {rm : Room} {S : List Value} {H : AHeap} {Q : Option Value → AHeap → Prop} {l1 l2 : Slot}  (h : W5 rm 19 [.val .null, l1, l2] (.null :: S) (H) Q) : W5 rm 18 [.val .null, l1, l2] (S) H Q := W.aload_n d5_18 rfl rfl h
theorem d5_19 : decode jdk_65_method_123_code 19 = .ok (.iconst 0, 1) := by decide +kernel
theorem s5_19 {rm : Room} {S : List Value} {H : AHeap} {Q : Option Value → AHeap → Prop} {l0 l1 l2 : Slot}  (h : W5 rm 20 [l0, l1, l2] (.int 0 :: S) (H) Q) : W5 rm 19 [l0, l1, l2] (S) H Q := W.iconst' d5_19 (by decide) h
theorem d5_20 : decode jdk_65_method_123_code 20 = .ok (.aload_n 2, 1) := by decide +kernel
theorem s5_20 {rm : Room} {S : List Value} {H : AHeap} {Q : Option Value → AHeap → Prop} {l0 l1 : Slot} {i : Nat} (h : W5 rm 21 [l0, l1, .val (.ref i)] (.ref i :: S) (H) Q) : W5 rm 20 [l0, l1, .val (.ref i)] (S) H Q := W.aload_n d5_20 rfl rfl h
theorem s5_20n {rm : Room} {S : List Value} {H : AHeap} {Q : Option Value → AHeap → Prop} {l0 l1 : Slot}  (h : W5 rm 21 [l0, l1, .val .null] (.null :: S) (H) Q) : W5 rm 20 [l0, l1, .val .null] (S) H Q := W.aload_n d5_20 rfl rfl h
theorem d5_21 : decode jdk_65_method_123_code 21 = .ok (.iconst 0, 1) := by decide +kernel
theorem s5_21 {rm : Room} {S : List Value} {H : AHeap} {Q : Option Value → AHeap → Prop} {l0 l1 l2 : Slot}  (h : W5 rm 22 [l0, l1, l2] (.int 0 :: S) (H) Q) : W5 rm 21 [l0, l1, l2] (S) H Q := W.iconst' d5_21 (by decide) h
theorem d5_22 : decode jdk_65_method_123_code 22 = .ok (.aload_n 0, 1) := by decide +kernel
theorem s5_22 {rm : Room} {S : List Value} {H : AHeap} {Q : Option Value → AHeap → Prop} {l1 l2 : Slot} {i : Nat} (h : W5 rm 23 [.val (.ref i), l1, l2] (.ref i :: S) (H) Q) : W5 rm 22 [.val (.ref i), l1, l2] (S) H Q := W.aload_n d5_22 rfl rfl h
theorem s5_22n {rm : Room} {S : List Value} {H : AHeap} {Q : Option Value → AHeap → Prop} {l1 l2 : Slot}  (h : W5 rm 23 [.val .null, l1, l2] (.null :: S) (H) Q) : W5 rm 22 [.val .null, l1, l2] (S) H Q := W.aload_n d5_22 rfl rfl h
theorem d5_23 : decode jdk_65_method_123_code 23 = .ok (.arraylength, 1) := by decide +kernel
theorem s5_23 {rm : Room} {S : List Value} {H : AHeap} {Q : Option Value → AHeap → Prop} {l0 l1 l2 : Slot} {i : Nat} {ty : FieldType} {vs : List Value} (hH : H[i]? = some (.inr (ty, vs))) (h : W5 rm 24 [l0, l1, l2] (.int (Int32.ofNat vs.length) :: S) (H) Q) : W5 rm 23 [l0, l1, l2] (.ref i :: S) H Q := W.arraylength d5_23 hH h
theorem s5_23k {rm : Room} {S : List Value} {H : AHeap} {Q : Option Value → AHeap → Prop} {l0 l1 l2 : Slot} {i : Nat} {ty : FieldType} {vs : List Value} (n : Int32) (hH : H[i]? = some (.inr (ty, vs))) (hn : Int32.ofNat vs.length = n) (h : W5 rm 24 [l0, l1, l2] (.int n :: S) (H) Q) : W5 rm 23 [l0, l1, l2] (.ref i :: S) H Q := W.arraylength d5_23 hH (by rw [hn]; exact h)
theorem d5_24 : decode jdk_65_method_123_code 24 = .ok (.iload_n 1, 1) := by decide +kernel
theorem s5_24 {rm : Room} {S : List Value} {H : AHeap} {Q : Option Value → AHeap → Prop} {l0 l2 : Slot} {x : Int32} (h : W5 rm 25 [l0, .val (.int x), l2] (.int x :: S) (H) Q) : W5 rm 24 [l0, .val (.int x), l2] (S) H Q := W.iload_n d5_24 rfl h
theorem d5_25 : decode jdk_65_method_123_code 25 = .ok (.invokestatic 304, 3) := by decide +kernel
theorem s5_25 {rm : Room} {S : List Value} {H : AHeap} {Q : Option Value → AHeap → Prop} {l0 l1 l2 : Slot} {rm' : Room} {H' : AHeap} {a0 : Int32} {a1 : Int32} {r : Int32} (hM : M6 rm' [.int a0, .int a1] H (Is (some (.int r)) H')) (hr : rok rm rm' 2 S = true) (h : W5 (less rm rm') 28 [l0, l1, l2] (.int r :: S) H' Q) : W5 rm 25 [l0, l1, l2] (.int a1 :: .int a0 :: S) H Q := W.callS (S := S) (as := [.int a0, .int a1]) (rm' := rm') d5_25 (List.mem_of_getElem? (i := 33) rfl) (List.mem_of_getElem? (i := 34) rfl) (List.mem_of_getElem? (i := 35) rfl) (List.mem_of_getElem? (i := 36) rfl) (by decide) pd5 rfl rfl hM hr (fun _ _ q => by obtain ⟨rfl, rfl⟩ := q; exact h)
theorem s5_25q {rm : Room} {S : List Value} {H : AHeap} {Q : Option Value → AHeap → Prop} {l0 l1 l2 : Slot} {rm' : Room} {Q' : Option Value → AHeap → Prop} {a0 a1 : Value} (hM : M6 rm' [a0, a1] H Q') (hr : rok rm rm' 2 S = true) (h : ∀ v H', Q' v H' → W5 (less rm rm') 28 [l0, l1, l2] (v.toList ++ S) H' Q) : W5 rm 25 [l0, l1, l2] (a1 :: a0 :: S) H Q := W.callS (S := S) (as := [a0, a1]) (rm' := rm') d5_25 (List.mem_of_getElem? (i := 33) rfl) (List.mem_of_getElem? (i := 34) rfl) (List.mem_of_getElem? (i := 35) rfl) (List.mem_of_getElem? (i := 36) rfl) (by decide) pd5 rfl rfl hM hr h
theorem d5_28 : decode jdk_65_method_123_code 28 = .ok (.invokestatic 150, 3) := by decide +kernel
theorem s5_28 {rm : Room} {S : List Value} {H : AHeap} {Q : Option Value → AHeap → Prop} {l0 l1 l2 : Slot} {a b : Nat} {nn : Int32} {vs vd : List Value} (N : Nat) (hA : H[a]? = some (.inr (.int, vs))) (hB : H[b]? = some (.inr (.int, vd))) (hn : ix nn N) (h1 : Nat.ble N vs.length = true) (h2 : Nat.ble N vd.length = true) (hr : cok rm S = true) (h : W5 rm 31 [l0, l1, l2] (S) (H.set b (.inr (.int, vs.take N ++ vd.drop N))) Q) : W5 rm 28 [l0, l1, l2] (.int nn :: .int 0 :: .ref b :: .int 0 :: .ref a :: S) H Q := W.acopyI d5_28 (List.mem_of_getElem? (i := 37) rfl) (List.mem_of_getElem? (i := 40) rfl) (List.mem_of_getElem? (i := 38) rfl) (List.mem_of_getElem? (i := 39) rfl) hA hB hn (Nat.le_of_ble_eq_true h1) (Nat.le_of_ble_eq_true h2) hr h
theorem d5_31 : decode jdk_65_method_123_code 31 = .ok (.aload_n 2, 1) := by decide +kernel
theorem s5_31 {rm : Room} {S : List Value} {H : AHeap} {Q : Option Value → AHeap → Prop} {l0 l1 : Slot} {i : Nat} (h : W5 rm 32 [l0, l1, .val (.ref i)] (.ref i :: S) (H) Q) : W5 rm 31 [l0, l1, .val (.ref i)] (S) H Q := W.aload_n d5_31 rfl rfl h
theorem s5_31n {rm : Room} {S : List Value} {H : AHeap} {Q : Option Value → AHeap → Prop} {l0 l1 : Slot}  (h : W5 rm 32 [l0, l1, .val .null] (.null :: S) (H) Q) : W5 rm 31 [l0, l1, .val .null] (S) H Q := W.aload_n d5_31 rfl rfl h
theorem d5_32 : decode jdk_65_method_123_code 32 = .ok (.areturn, 1) := by decide +kernel
theorem s5_32 {rm : Room} {S : List Value} {H : AHeap} {Q : Option Value → AHeap → Prop} {l0 l1 l2 : Slot} {i : Nat} (hQ : Q (some (.ref i)) H) : W5 rm 32 [l0, l1, l2] (.ref i :: S) H Q := W.areturn d5_32 rfl rfl rfl hQ
theorem e6 {rm : Room} {H : AHeap} {Q : Option Value → AHeap → Prop} {a0 : Int32} {a1 : Int32} (h : W6 rm 0 [.val (.int a0), .val (.int a1)] [] H Q) : M6 rm [.int a0, .int a1] H Q := M.of pf6 rfl rfl h
theorem e6L {rm : Room} {H : AHeap} {Q : Option Value → AHeap → Prop} {L : List Slot} {as : List Value} (h : W6 rm 0 L [] H Q) (hl : ent as ++ List.replicate (2 - (ent as).length) .unset = L := by rfl) (hn : L.length = 2 := by rfl) : M6 rm as H Q := M.of pf6 hl hn h
theorem d6_0 : decode jdk_29_method_69_code 0 = .ok (.iload_n 0, 1) := by decide +kernel
theorem s6_0 {rm : Room} {S : List Value} {H : AHeap} {Q : Option Value → AHeap → Prop} {l1 : Slot} {x : Int32} (h : W6 rm 1 [.val (.int x), l1] (.int x :: S) (H) Q) : W6 rm 0 [.val (.int x), l1] (S) H Q := W.iload_n d6_0 rfl h
theorem d6_1 : decode jdk_29_method_69_code 1 = .ok (.iload_n 1, 1) := by decide +kernel
theorem s6_1 {rm : Room} {S : List Value} {H : AHeap} {Q : Option Value → AHeap → Prop} {l0 : Slot} {x : Int32} (h : W6 rm 2 [l0, .val (.int x)] (.int x :: S) (H) Q) : W6 rm 1 [l0, .val (.int x)] (S) H Q := W.iload_n d6_1 rfl h
theorem d6_2 : decode jdk_29_method_69_code 2 = .ok (.if_icmp .gt 7, 3) := by decide +kernel
theorem s6_2 {rm : Room} {S : List Value} {H : AHeap} {Q : Option Value → AHeap → Prop} {l0 l1 : Slot} {x y : Int32} (h1 : y < x → W6 rm 9 [l0, l1] S H Q) (h2 : ¬ y < x → W6 rm 5 [l0, l1] S H Q) : W6 rm 2 [l0, l1] (.int y :: .int x :: S) H Q := W.icmp d6_2 (by decide) (by decide) h1 h2
theorem d6_5 : decode jdk_29_method_69_code 5 = .ok (.iload_n 0, 1) := by decide +kernel
theorem s6_5 {rm : Room} {S : List Value} {H : AHeap} {Q : Option Value → AHeap → Prop} {l1 : Slot} {x : Int32} (h : W6 rm 6 [.val (.int x), l1] (.int x :: S) (H) Q) : W6 rm 5 [.val (.int x), l1] (S) H Q := W.iload_n d6_5 rfl h
theorem d6_6 : decode jdk_29_method_69_code 6 = .ok (.goto 4, 3) := by decide +kernel
theorem s6_6 {rm : Room} {S : List Value} {H : AHeap} {Q : Option Value → AHeap → Prop} {l0 l1 : Slot}  (h : W6 rm 10 [l0, l1] (S) (H) Q) : W6 rm 6 [l0, l1] (S) H Q := W.goto d6_6 (by decide) (by decide) h
theorem d6_9 : decode jdk_29_method_69_code 9 = .ok (.iload_n 1, 1) := by decide +kernel
theorem s6_9 {rm : Room} {S : List Value} {H : AHeap} {Q : Option Value → AHeap → Prop} {l0 : Slot} {x : Int32} (h : W6 rm 10 [l0, .val (.int x)] (.int x :: S) (H) Q) : W6 rm 9 [l0, .val (.int x)] (S) H Q := W.iload_n d6_9 rfl h
theorem d6_10 : decode jdk_29_method_69_code 10 = .ok (.ireturn, 1) := by decide +kernel
theorem s6_10 {rm : Room} {S : List Value} {H : AHeap} {Q : Option Value → AHeap → Prop} {l0 l1 : Slot} {x : Int32} (hQ : Q (some (.int x)) H) : W6 rm 10 [l0, l1] (.int x :: S) H Q := W.ireturn d6_10 rfl hQ
theorem e7 {rm : Room} {H : AHeap} {Q : Option Value → AHeap → Prop} {a0 : Nat} {a1 : Nat} {a2 : Int32} {a3 : Int32} (h : W7 rm 0 [.val (.ref a0), .val (.ref a1), .val (.int a2), .val (.int a3)] [] H Q) : M7 rm [.ref a0, .ref a1, .int a2, .int a3] H Q := M.of pf7 rfl rfl h
theorem e7L {rm : Room} {H : AHeap} {Q : Option Value → AHeap → Prop} {L : List Slot} {as : List Value} (h : W7 rm 0 L [] H Q) (hl : ent as ++ List.replicate (4 - (ent as).length) .unset = L := by rfl) (hn : L.length = 4 := by rfl) : M7 rm as H Q := M.of pf7 hl hn h
theorem d7_0 : decode method_3_code 0 = .ok (.iload_n 3, 1) := by decide +kernel
theorem s7_0 {rm : Room} {S : List Value} {H : AHeap} {Q : Option Value → AHeap → Prop} {l0 l1 l2 : Slot} {x : Int32} (h : W7 rm 1 [l0, l1, l2, .val (.int x)] (.int x :: S) (H) Q) : W7 rm 0 [l0, l1, l2, .val (.int x)] (S) H Q := W.iload_n d7_0 rfl h
theorem d7_1 : decode method_3_code 1 = .ok (.iload_n 2, 1) := by decide +kernel
theorem s7_1 {rm : Room} {S : List Value} {H : AHeap} {Q : Option Value → AHeap → Prop} {l0 l1 l3 : Slot} {x : Int32} (h : W7 rm 2 [l0, l1, .val (.int x), l3] (.int x :: S) (H) Q) : W7 rm 1 [l0, l1, .val (.int x), l3] (S) H Q := W.iload_n d7_1 rfl h
theorem d7_2 : decode method_3_code 2 = .ok (.if_icmp .lt 5, 3) := by decide +kernel
theorem s7_2 {rm : Room} {S : List Value} {H : AHeap} {Q : Option Value → AHeap → Prop} {l0 l1 l2 l3 : Slot} {x y : Int32} (h1 : x < y → W7 rm 7 [l0, l1, l2, l3] S H Q) (h2 : ¬ x < y → W7 rm 5 [l0, l1, l2, l3] S H Q) : W7 rm 2 [l0, l1, l2, l3] (.int y :: .int x :: S) H Q := W.icmp d7_2 (by decide) (by decide) h1 h2
theorem d7_5 : decode method_3_code 5 = .ok (.iconst 1, 1) := by decide +kernel
theorem s7_5 {rm : Room} {S : List Value} {H : AHeap} {Q : Option Value → AHeap → Prop} {l0 l1 l2 l3 : Slot}  (h : W7 rm 6 [l0, l1, l2, l3] (.int 1 :: S) (H) Q) : W7 rm 5 [l0, l1, l2, l3] (S) H Q := W.iconst' d7_5 (by decide) h
theorem d7_6 : decode method_3_code 6 = .ok (.ireturn, 1) := by decide +kernel
theorem s7_6 {rm : Room} {S : List Value} {H : AHeap} {Q : Option Value → AHeap → Prop} {l0 l1 l2 l3 : Slot} {x : Int32} (hQ : Q (some (.int (x &&& 1))) H) : W7 rm 6 [l0, l1, l2, l3] (.int x :: S) H Q := W.ireturnZ d7_6 rfl hQ
theorem d7_7 : decode method_3_code 7 = .ok (.aload_n 0, 1) := by decide +kernel
theorem s7_7 {rm : Room} {S : List Value} {H : AHeap} {Q : Option Value → AHeap → Prop} {l1 l2 l3 : Slot} {i : Nat} (h : W7 rm 8 [.val (.ref i), l1, l2, l3] (.ref i :: S) (H) Q) : W7 rm 7 [.val (.ref i), l1, l2, l3] (S) H Q := W.aload_n d7_7 rfl rfl h
theorem s7_7n {rm : Room} {S : List Value} {H : AHeap} {Q : Option Value → AHeap → Prop} {l1 l2 l3 : Slot}  (h : W7 rm 8 [.val .null, l1, l2, l3] (.null :: S) (H) Q) : W7 rm 7 [.val .null, l1, l2, l3] (S) H Q := W.aload_n d7_7 rfl rfl h
theorem d7_8 : decode method_3_code 8 = .ok (.iload_n 3, 1) := by decide +kernel
theorem s7_8 {rm : Room} {S : List Value} {H : AHeap} {Q : Option Value → AHeap → Prop} {l0 l1 l2 : Slot} {x : Int32} (h : W7 rm 9 [l0, l1, l2, .val (.int x)] (.int x :: S) (H) Q) : W7 rm 8 [l0, l1, l2, .val (.int x)] (S) H Q := W.iload_n d7_8 rfl h
theorem d7_9 : decode method_3_code 9 = .ok (.iaload, 1) := by decide +kernel
theorem s7_9 {rm : Room} {S : List Value} {H : AHeap} {Q : Option Value → AHeap → Prop} {l0 l1 l2 l3 : Slot} {i : Nat} {j : Int32} {vs : List Value} {v : Value} (N : Nat) (hH : H[i]? = some (.inr (.int, vs))) (hj : ix j N) (hv : vs[N]? = some v) (h : W7 rm 10 [l0, l1, l2, l3] (v :: S) (H) Q) : W7 rm 9 [l0, l1, l2, l3] (.int j :: .ref i :: S) H Q := W.xaload (Or.inl ⟨rfl, rfl⟩) d7_9 hH hj hv h
theorem d7_10 : decode method_3_code 10 = .ok (.aload_n 1, 1) := by decide +kernel
theorem s7_10 {rm : Room} {S : List Value} {H : AHeap} {Q : Option Value → AHeap → Prop} {l0 l2 l3 : Slot} {i : Nat} (h : W7 rm 11 [l0, .val (.ref i), l2, l3] (.ref i :: S) (H) Q) : W7 rm 10 [l0, .val (.ref i), l2, l3] (S) H Q := W.aload_n d7_10 rfl rfl h
theorem s7_10n {rm : Room} {S : List Value} {H : AHeap} {Q : Option Value → AHeap → Prop} {l0 l2 l3 : Slot}  (h : W7 rm 11 [l0, .val .null, l2, l3] (.null :: S) (H) Q) : W7 rm 10 [l0, .val .null, l2, l3] (S) H Q := W.aload_n d7_10 rfl rfl h
theorem d7_11 : decode method_3_code 11 = .ok (.iload_n 2, 1) := by decide +kernel
theorem s7_11 {rm : Room} {S : List Value} {H : AHeap} {Q : Option Value → AHeap → Prop} {l0 l1 l3 : Slot} {x : Int32} (h : W7 rm 12 [l0, l1, .val (.int x), l3] (.int x :: S) (H) Q) : W7 rm 11 [l0, l1, .val (.int x), l3] (S) H Q := W.iload_n d7_11 rfl h
theorem d7_12 : decode method_3_code 12 = .ok (.iconst 1, 1) := by decide +kernel
theorem s7_12 {rm : Room} {S : List Value} {H : AHeap} {Q : Option Value → AHeap → Prop} {l0 l1 l2 l3 : Slot}  (h : W7 rm 13 [l0, l1, l2, l3] (.int 1 :: S) (H) Q) : W7 rm 12 [l0, l1, l2, l3] (S) H Q := W.iconst' d7_12 (by decide) h
theorem d7_13 : decode method_3_code 13 = .ok (.isub, 1) := by decide +kernel
theorem s7_13 {rm : Room} {S : List Value} {H : AHeap} {Q : Option Value → AHeap → Prop} {l0 l1 l2 l3 : Slot} {x y : Int32} (h : W7 rm 14 [l0, l1, l2, l3] (.int (x - y) :: S) (H) Q) : W7 rm 13 [l0, l1, l2, l3] (.int y :: .int x :: S) H Q := W.isub d7_13 h
theorem d7_14 : decode method_3_code 14 = .ok (.iload_n 3, 1) := by decide +kernel
theorem s7_14 {rm : Room} {S : List Value} {H : AHeap} {Q : Option Value → AHeap → Prop} {l0 l1 l2 : Slot} {x : Int32} (h : W7 rm 15 [l0, l1, l2, .val (.int x)] (.int x :: S) (H) Q) : W7 rm 14 [l0, l1, l2, .val (.int x)] (S) H Q := W.iload_n d7_14 rfl h
theorem d7_15 : decode method_3_code 15 = .ok (.isub, 1) := by decide +kernel
theorem s7_15 {rm : Room} {S : List Value} {H : AHeap} {Q : Option Value → AHeap → Prop} {l0 l1 l2 l3 : Slot} {x y : Int32} (h : W7 rm 16 [l0, l1, l2, l3] (.int (x - y) :: S) (H) Q) : W7 rm 15 [l0, l1, l2, l3] (.int y :: .int x :: S) H Q := W.isub d7_15 h
theorem d7_16 : decode method_3_code 16 = .ok (.iaload, 1) := by decide +kernel
theorem s7_16 {rm : Room} {S : List Value} {H : AHeap} {Q : Option Value → AHeap → Prop} {l0 l1 l2 l3 : Slot} {i : Nat} {j : Int32} {vs : List Value} {v : Value} (N : Nat) (hH : H[i]? = some (.inr (.int, vs))) (hj : ix j N) (hv : vs[N]? = some v) (h : W7 rm 17 [l0, l1, l2, l3] (v :: S) (H) Q) : W7 rm 16 [l0, l1, l2, l3] (.int j :: .ref i :: S) H Q := W.xaload (Or.inl ⟨rfl, rfl⟩) d7_16 hH hj hv h
theorem d7_17 : decode method_3_code 17 = .ok (.if_icmp .ne 7, 3) := by decide +kernel
theorem s7_17 {rm : Room} {S : List Value} {H : AHeap} {Q : Option Value → AHeap → Prop} {l0 l1 l2 l3 : Slot} {x y : Int32} (h1 : ¬ x = y → W7 rm 24 [l0, l1, l2, l3] S H Q) (h2 : x = y → W7 rm 20 [l0, l1, l2, l3] S H Q) : W7 rm 17 [l0, l1, l2, l3] (.int y :: .int x :: S) H Q := W.icmp d7_17 (by decide) (by decide) h1 h2
theorem d7_20 : decode method_3_code 20 = .ok (.iconst 1, 1) := by decide +kernel
theorem s7_20 {rm : Room} {S : List Value} {H : AHeap} {Q : Option Value → AHeap → Prop} {l0 l1 l2 l3 : Slot}  (h : W7 rm 21 [l0, l1, l2, l3] (.int 1 :: S) (H) Q) : W7 rm 20 [l0, l1, l2, l3] (S) H Q := W.iconst' d7_20 (by decide) h
theorem d7_21 : decode method_3_code 21 = .ok (.goto 4, 3) := by decide +kernel
theorem s7_21 {rm : Room} {S : List Value} {H : AHeap} {Q : Option Value → AHeap → Prop} {l0 l1 l2 l3 : Slot}  (h : W7 rm 25 [l0, l1, l2, l3] (S) (H) Q) : W7 rm 21 [l0, l1, l2, l3] (S) H Q := W.goto d7_21 (by decide) (by decide) h
theorem d7_24 : decode method_3_code 24 = .ok (.iconst 0, 1) := by decide +kernel
theorem s7_24 {rm : Room} {S : List Value} {H : AHeap} {Q : Option Value → AHeap → Prop} {l0 l1 l2 l3 : Slot}  (h : W7 rm 25 [l0, l1, l2, l3] (.int 0 :: S) (H) Q) : W7 rm 24 [l0, l1, l2, l3] (S) H Q := W.iconst' d7_24 (by decide) h
theorem d7_25 : decode method_3_code 25 = .ok (.ireturn, 1) := by decide +kernel
theorem s7_25 {rm : Room} {S : List Value} {H : AHeap} {Q : Option Value → AHeap → Prop} {l0 l1 l2 l3 : Slot} {x : Int32} (hQ : Q (some (.int (x &&& 1))) H) : W7 rm 25 [l0, l1, l2, l3] (.int x :: S) H Q := W.ireturnZ d7_25 rfl hQ
theorem e8 {rm : Room} {H : AHeap} {Q : Option Value → AHeap → Prop} {a0 : Nat} {a1 : Int32} (h : W8 rm 0 [.val (.ref a0), .val (.int a1)] [] H Q) : M8 rm [.ref a0, .int a1] H Q := M.of pf8 rfl rfl h
theorem e8L {rm : Room} {H : AHeap} {Q : Option Value → AHeap → Prop} {L : List Slot} {as : List Value} (h : W8 rm 0 L [] H Q) (hl : ent as ++ List.replicate (2 - (ent as).length) .unset = L := by rfl) (hn : L.length = 2 := by rfl) : M8 rm as H Q := M.of pf8 hl hn h
theorem d8_0 : decode prog_20_method_5_code 0 = .ok (.aload_n 0, 1) := by decide +kernel
theorem s8_0 {rm : Room} {S : List Value} {H : AHeap} {Q : Option Value → AHeap → Prop} {l1 : Slot} {i : Nat} (h : W8 rm 1 [.val (.ref i), l1] (.ref i :: S) (H) Q) : W8 rm 0 [.val (.ref i), l1] (S) H Q := W.aload_n d8_0 rfl rfl h
theorem s8_0n {rm : Room} {S : List Value} {H : AHeap} {Q : Option Value → AHeap → Prop} {l1 : Slot}  (h : W8 rm 1 [.val .null, l1] (.null :: S) (H) Q) : W8 rm 0 [.val .null, l1] (S) H Q := W.aload_n d8_0 rfl rfl h
theorem d8_1 : decode prog_20_method_5_code 1 = .ok (.getfield 13, 3) := by decide +kernel
theorem s8_1 {rm : Room} {S : List Value} {H : AHeap} {Q : Option Value → AHeap → Prop} {l0 l1 : Slot} {i : Nat} {f0 f1 : Value} (hH : H[i]? = some (.inl (0, [f0, f1]))) (h : W8 rm 4 [l0, l1] (f1 :: S) (H) Q) : W8 rm 1 [l0, l1] (.ref i :: S) H Q := W.getF (c := 0) (j := 1) d8_1 (host := "") (Or.inl (List.mem_of_getElem? (i := 17) rfl)) (Or.inl rfl) rfl rfl hH rfl h
theorem d8_4 : decode prog_20_method_5_code 4 = .ok (.aload_n 0, 1) := by decide +kernel
theorem s8_4 {rm : Room} {S : List Value} {H : AHeap} {Q : Option Value → AHeap → Prop} {l1 : Slot} {i : Nat} (h : W8 rm 5 [.val (.ref i), l1] (.ref i :: S) (H) Q) : W8 rm 4 [.val (.ref i), l1] (S) H Q := W.aload_n d8_4 rfl rfl h
theorem s8_4n {rm : Room} {S : List Value} {H : AHeap} {Q : Option Value → AHeap → Prop} {l1 : Slot}  (h : W8 rm 5 [.val .null, l1] (.null :: S) (H) Q) : W8 rm 4 [.val .null, l1] (S) H Q := W.aload_n d8_4 rfl rfl h
theorem d8_5 : decode prog_20_method_5_code 5 = .ok (.getfield 7, 3) := by decide +kernel
theorem s8_5 {rm : Room} {S : List Value} {H : AHeap} {Q : Option Value → AHeap → Prop} {l0 l1 : Slot} {i : Nat} {f0 f1 : Value} (hH : H[i]? = some (.inl (0, [f0, f1]))) (h : W8 rm 8 [l0, l1] (f0 :: S) (H) Q) : W8 rm 5 [l0, l1] (.ref i :: S) H Q := W.getF (c := 0) (j := 0) d8_5 (host := "") (Or.inl (List.mem_of_getElem? (i := 10) rfl)) (Or.inl rfl) rfl rfl hH rfl h
theorem d8_8 : decode prog_20_method_5_code 8 = .ok (.arraylength, 1) := by decide +kernel
theorem s8_8 {rm : Room} {S : List Value} {H : AHeap} {Q : Option Value → AHeap → Prop} {l0 l1 : Slot} {i : Nat} {ty : FieldType} {vs : List Value} (hH : H[i]? = some (.inr (ty, vs))) (h : W8 rm 9 [l0, l1] (.int (Int32.ofNat vs.length) :: S) (H) Q) : W8 rm 8 [l0, l1] (.ref i :: S) H Q := W.arraylength d8_8 hH h
theorem s8_8k {rm : Room} {S : List Value} {H : AHeap} {Q : Option Value → AHeap → Prop} {l0 l1 : Slot} {i : Nat} {ty : FieldType} {vs : List Value} (n : Int32) (hH : H[i]? = some (.inr (ty, vs))) (hn : Int32.ofNat vs.length = n) (h : W8 rm 9 [l0, l1] (.int n :: S) (H) Q) : W8 rm 8 [l0, l1] (.ref i :: S) H Q := W.arraylength d8_8 hH (by rw [hn]; exact h)
theorem d8_9 : decode prog_20_method_5_code 9 = .ok (.if_icmp .ne 20, 3) := by decide +kernel
theorem s8_9 {rm : Room} {S : List Value} {H : AHeap} {Q : Option Value → AHeap → Prop} {l0 l1 : Slot} {x y : Int32} (h1 : ¬ x = y → W8 rm 29 [l0, l1] S H Q) (h2 : x = y → W8 rm 12 [l0, l1] S H Q) : W8 rm 9 [l0, l1] (.int y :: .int x :: S) H Q := W.icmp d8_9 (by decide) (by decide) h1 h2
theorem d8_12 : decode prog_20_method_5_code 12 = .ok (.aload_n 0, 1) := by decide +kernel
theorem s8_12 {rm : Room} {S : List Value} {H : AHeap} {Q : Option Value → AHeap → Prop} {l1 : Slot} {i : Nat} (h : W8 rm 13 [.val (.ref i), l1] (.ref i :: S) (H) Q) : W8 rm 12 [.val (.ref i), l1] (S) H Q := W.aload_n d8_12 rfl rfl h
theorem s8_12n {rm : Room} {S : List Value} {H : AHeap} {Q : Option Value → AHeap → Prop} {l1 : Slot}  (h : W8 rm 13 [.val .null, l1] (.null :: S) (H) Q) : W8 rm 12 [.val .null, l1] (S) H Q := W.aload_n d8_12 rfl rfl h
theorem d8_13 : decode prog_20_method_5_code 13 = .ok (.aload_n 0, 1) := by decide +kernel
theorem s8_13 {rm : Room} {S : List Value} {H : AHeap} {Q : Option Value → AHeap → Prop} {l1 : Slot} {i : Nat} (h : W8 rm 14 [.val (.ref i), l1] (.ref i :: S) (H) Q) : W8 rm 13 [.val (.ref i), l1] (S) H Q := W.aload_n d8_13 rfl rfl h
theorem s8_13n {rm : Room} {S : List Value} {H : AHeap} {Q : Option Value → AHeap → Prop} {l1 : Slot}  (h : W8 rm 14 [.val .null, l1] (.null :: S) (H) Q) : W8 rm 13 [.val .null, l1] (S) H Q := W.aload_n d8_13 rfl rfl h
theorem d8_14 : decode prog_20_method_5_code 14 = .ok (.getfield 7, 3) := by decide +kernel
theorem s8_14 {rm : Room} {S : List Value} {H : AHeap} {Q : Option Value → AHeap → Prop} {l0 l1 : Slot} {i : Nat} {f0 f1 : Value} (hH : H[i]? = some (.inl (0, [f0, f1]))) (h : W8 rm 17 [l0, l1] (f0 :: S) (H) Q) : W8 rm 14 [l0, l1] (.ref i :: S) H Q := W.getF (c := 0) (j := 0) d8_14 (host := "") (Or.inl (List.mem_of_getElem? (i := 10) rfl)) (Or.inl rfl) rfl rfl hH rfl h
theorem d8_17 : decode prog_20_method_5_code 17 = .ok (.aload_n 0, 1) := by decide +kernel
theorem s8_17 {rm : Room} {S : List Value} {H : AHeap} {Q : Option Value → AHeap → Prop} {l1 : Slot} {i : Nat} (h : W8 rm 18 [.val (.ref i), l1] (.ref i :: S) (H) Q) : W8 rm 17 [.val (.ref i), l1] (S) H Q := W.aload_n d8_17 rfl rfl h
theorem s8_17n {rm : Room} {S : List Value} {H : AHeap} {Q : Option Value → AHeap → Prop} {l1 : Slot}  (h : W8 rm 18 [.val .null, l1] (.null :: S) (H) Q) : W8 rm 17 [.val .null, l1] (S) H Q := W.aload_n d8_17 rfl rfl h
theorem d8_18 : decode prog_20_method_5_code 18 = .ok (.getfield 13, 3) := by decide +kernel
theorem s8_18 {rm : Room} {S : List Value} {H : AHeap} {Q : Option Value → AHeap → Prop} {l0 l1 : Slot} {i : Nat} {f0 f1 : Value} (hH : H[i]? = some (.inl (0, [f0, f1]))) (h : W8 rm 21 [l0, l1] (f1 :: S) (H) Q) : W8 rm 18 [l0, l1] (.ref i :: S) H Q := W.getF (c := 0) (j := 1) d8_18 (host := "") (Or.inl (List.mem_of_getElem? (i := 17) rfl)) (Or.inl rfl) rfl rfl hH rfl h
theorem d8_21 : decode prog_20_method_5_code 21 = .ok (.iconst 2, 1) := by decide +kernel
theorem s8_21 {rm : Room} {S : List Value} {H : AHeap} {Q : Option Value → AHeap → Prop} {l0 l1 : Slot}  (h : W8 rm 22 [l0, l1] (.int 2 :: S) (H) Q) : W8 rm 21 [l0, l1] (S) H Q := W.iconst' d8_21 (by decide) h
theorem d8_22 : decode prog_20_method_5_code 22 = .ok (.imul, 1) := by decide +kernel
theorem s8_22 {rm : Room} {S : List Value} {H : AHeap} {Q : Option Value → AHeap → Prop} {l0 l1 : Slot} {x y : Int32} (h : W8 rm 23 [l0, l1] (.int (x * y) :: S) (H) Q) : W8 rm 22 [l0, l1] (.int y :: .int x :: S) H Q := W.imul d8_22 h
theorem d8_23 : decode prog_20_method_5_code 23 = .ok (.invokestatic 17, 3) := by decide +kernel
theorem s8_23 {rm : Room} {S : List Value} {H : AHeap} {Q : Option Value → AHeap → Prop} {l0 l1 : Slot} {rm' : Room} {H' : AHeap} {a0 : Nat} {a1 : Int32} {r : Nat} (hM : M5 rm' [.ref a0, .int a1] H (Is (some (.ref r)) H')) (hr : rok rm rm' 3 S = true) (h : W8 (less rm rm') 26 [l0, l1] (.ref r :: S) H' Q) : W8 rm 23 [l0, l1] (.int a1 :: .ref a0 :: S) H Q := W.callS (S := S) (as := [.ref a0, .int a1]) (rm' := rm') d8_23 (List.mem_of_getElem? (i := 29) rfl) (List.mem_of_getElem? (i := 30) rfl) (List.mem_of_getElem? (i := 31) rfl) (List.mem_of_getElem? (i := 32) rfl) (by decide) pd4 rfl rfl hM hr (fun _ _ q => by obtain ⟨rfl, rfl⟩ := q; exact h)
theorem s8_23q {rm : Room} {S : List Value} {H : AHeap} {Q : Option Value → AHeap → Prop} {l0 l1 : Slot} {rm' : Room} {Q' : Option Value → AHeap → Prop} {a0 a1 : Value} (hM : M5 rm' [a0, a1] H Q') (hr : rok rm rm' 3 S = true) (h : ∀ v H', Q' v H' → W8 (less rm rm') 26 [l0, l1] (v.toList ++ S) H' Q) : W8 rm 23 [l0, l1] (a1 :: a0 :: S) H Q := W.callS (S := S) (as := [a0, a1]) (rm' := rm') d8_23 (List.mem_of_getElem? (i := 29) rfl) (List.mem_of_getElem? (i := 30) rfl) (List.mem_of_getElem? (i := 31) rfl) (List.mem_of_getElem? (i := 32) rfl) (by decide) pd4 rfl rfl hM hr h
theorem d8_26 : decode prog_20_method_5_code 26 = .ok (.putfield 7, 3) := by decide +kernel
theorem s8_26 {rm : Room} {S : List Value} {H : AHeap} {Q : Option Value → AHeap → Prop} {l0 l1 : Slot} {i : Nat} {f0 f1 : Value} {x : Nat} (hH : H[i]? = some (.inl (0, [f0, f1]))) (h : W8 rm 29 [l0, l1] (S) (H.set i (.inl (0, [.ref x, f1]))) Q) : W8 rm 26 [l0, l1] (.ref x :: .ref i :: S) H Q := W.putF (c := 0) (j := 0) kt d8_26 (host := "") (Or.inl (List.mem_of_getElem? (i := 10) rfl)) (Or.inl rfl) rfl rfl (Or.inl (List.mem_of_getElem? (i := 11) rfl)) rfl rfl hH h
theorem d8_29 : decode prog_20_method_5_code 29 = .ok (.aload_n 0, 1) := by decide +kernel
theorem s8_29 {rm : Room} {S : List Value} {H : AHeap} {Q : Option Value → AHeap → Prop} {l1 : Slot} {i : Nat} (h : W8 rm 30 [.val (.ref i), l1] (.ref i :: S) (H) Q) : W8 rm 29 [.val (.ref i), l1] (S) H Q := W.aload_n d8_29 rfl rfl h
theorem s8_29n {rm : Room} {S : List Value} {H : AHeap} {Q : Option Value → AHeap → Prop} {l1 : Slot}  (h : W8 rm 30 [.val .null, l1] (.null :: S) (H) Q) : W8 rm 29 [.val .null, l1] (S) H Q := W.aload_n d8_29 rfl rfl h
theorem d8_30 : decode prog_20_method_5_code 30 = .ok (.getfield 7, 3) := by decide +kernel
theorem s8_30 {rm : Room} {S : List Value} {H : AHeap} {Q : Option Value → AHeap → Prop} {l0 l1 : Slot} {i : Nat} {f0 f1 : Value} (hH : H[i]? = some (.inl (0, [f0, f1]))) (h : W8 rm 33 [l0, l1] (f0 :: S) (H) Q) : W8 rm 30 [l0, l1] (.ref i :: S) H Q := W.getF (c := 0) (j := 0) d8_30 (host := "") (Or.inl (List.mem_of_getElem? (i := 10) rfl)) (Or.inl rfl) rfl rfl hH rfl h
theorem d8_33 : decode prog_20_method_5_code 33 = .ok (.aload_n 0, 1) := by decide +kernel
theorem s8_33 {rm : Room} {S : List Value} {H : AHeap} {Q : Option Value → AHeap → Prop} {l1 : Slot} {i : Nat} (h : W8 rm 34 [.val (.ref i), l1] (.ref i :: S) (H) Q) : W8 rm 33 [.val (.ref i), l1] (S) H Q := W.aload_n d8_33 rfl rfl h
theorem s8_33n {rm : Room} {S : List Value} {H : AHeap} {Q : Option Value → AHeap → Prop} {l1 : Slot}  (h : W8 rm 34 [.val .null, l1] (.null :: S) (H) Q) : W8 rm 33 [.val .null, l1] (S) H Q := W.aload_n d8_33 rfl rfl h
theorem d8_34 : decode prog_20_method_5_code 34 = .ok (.dup, 1) := by decide +kernel
theorem s8_34 {rm : Room} {S : List Value} {H : AHeap} {Q : Option Value → AHeap → Prop} {l0 l1 : Slot} {v : Value} (hc : v.category = 1) (h : W8 rm 35 [l0, l1] (v :: v :: S) (H) Q) : W8 rm 34 [l0, l1] (v :: S) H Q := W.dup d8_34 hc h
theorem d8_35 : decode prog_20_method_5_code 35 = .ok (.getfield 13, 3) := by decide +kernel
theorem s8_35 {rm : Room} {S : List Value} {H : AHeap} {Q : Option Value → AHeap → Prop} {l0 l1 : Slot} {i : Nat} {f0 f1 : Value} (hH : H[i]? = some (.inl (0, [f0, f1]))) (h : W8 rm 38 [l0, l1] (f1 :: S) (H) Q) : W8 rm 35 [l0, l1] (.ref i :: S) H Q := W.getF (c := 0) (j := 1) d8_35 (host := "") (Or.inl (List.mem_of_getElem? (i := 17) rfl)) (Or.inl rfl) rfl rfl hH rfl h
theorem d8_38 : decode prog_20_method_5_code 38 = .ok (.dup_x1, 1) := by decide +kernel
theorem s8_38 {rm : Room} {S : List Value} {H : AHeap} {Q : Option Value → AHeap → Prop} {l0 l1 : Slot} {v w : Value} (hc : v.category = 1) (hc' : w.category = 1) (h : W8 rm 39 [l0, l1] (v :: w :: v :: S) (H) Q) : W8 rm 38 [l0, l1] (v :: w :: S) H Q := W.dup_x1 d8_38 hc hc' h
theorem d8_39 : decode prog_20_method_5_code 39 = .ok (.iconst 1, 1) := by decide +kernel
theorem s8_39 {rm : Room} {S : List Value} {H : AHeap} {Q : Option Value → AHeap → Prop} {l0 l1 : Slot}  (h : W8 rm 40 [l0, l1] (.int 1 :: S) (H) Q) : W8 rm 39 [l0, l1] (S) H Q := W.iconst' d8_39 (by decide) h
theorem d8_40 : decode prog_20_method_5_code 40 = .ok (.iadd, 1) := by decide +kernel
theorem s8_40 {rm : Room} {S : List Value} {H : AHeap} {Q : Option Value → AHeap → Prop} {l0 l1 : Slot} {x y : Int32} (h : W8 rm 41 [l0, l1] (.int (x + y) :: S) (H) Q) : W8 rm 40 [l0, l1] (.int y :: .int x :: S) H Q := W.iadd d8_40 h
theorem d8_41 : decode prog_20_method_5_code 41 = .ok (.putfield 13, 3) := by decide +kernel
theorem s8_41 {rm : Room} {S : List Value} {H : AHeap} {Q : Option Value → AHeap → Prop} {l0 l1 : Slot} {i : Nat} {f0 f1 : Value} {x : Int32} (hH : H[i]? = some (.inl (0, [f0, f1]))) (h : W8 rm 44 [l0, l1] (S) (H.set i (.inl (0, [f0, .int x]))) Q) : W8 rm 41 [l0, l1] (.int x :: .ref i :: S) H Q := W.putF (c := 0) (j := 1) kt d8_41 (host := "") (Or.inl (List.mem_of_getElem? (i := 17) rfl)) (Or.inl rfl) rfl rfl (Or.inl (List.mem_of_getElem? (i := 18) rfl)) rfl rfl hH h
theorem d8_44 : decode prog_20_method_5_code 44 = .ok (.iload_n 1, 1) := by decide +kernel
theorem s8_44 {rm : Room} {S : List Value} {H : AHeap} {Q : Option Value → AHeap → Prop} {l0 : Slot} {x : Int32} (h : W8 rm 45 [l0, .val (.int x)] (.int x :: S) (H) Q) : W8 rm 44 [l0, .val (.int x)] (S) H Q := W.iload_n d8_44 rfl h
theorem d8_45 : decode prog_20_method_5_code 45 = .ok (.iastore, 1) := by decide +kernel
theorem s8_45 {rm : Room} {S : List Value} {H : AHeap} {Q : Option Value → AHeap → Prop} {l0 l1 : Slot} {i : Nat} {j : Int32} {x : Int32} {vs : List Value} (N : Nat) (hH : H[i]? = some (.inr (.int, vs))) (hj : ix j N) (hl : Nat.blt N vs.length = true) (h : W8 rm 46 [l0, l1] (S) (H.set i (.inr (.int, vs.set N (.int x)))) Q) : W8 rm 45 [l0, l1] (.int x :: .int j :: .ref i :: S) H Q := W.iastore d8_45 hH hj hl h
theorem d8_46 : decode prog_20_method_5_code 46 = .ok (.return_, 1) := by decide +kernel
theorem s8_46 {rm : Room} {H : AHeap} {Q : Option Value → AHeap → Prop} {l0 l1 : Slot} (hQ : Q none H) : W8 rm 46 [l0, l1] [] H Q := W.ret_ d8_46 rfl hQ
theorem b0_202 {rm : Room} {S : List Value} {H : AHeap} {Q : Option Value → AHeap → Prop} {l0 l1 l2 l3 l4 l5 l6 l7 l8 l9 : Slot} {x : Int32} (h : ∀ t : Int32, ((¬ x = 0) ∧ t = 1) ∨ ((x = 0) ∧ t = 0) → W0 rm 210 [l0, l1, l2, l3, l4, l5, l6, l7, l8, l9] (.int t :: S) H Q) : W0 rm 202 [l0, l1, l2, l3, l4, l5, l6, l7, l8, l9] (.int x :: S) H Q := s0_202 (fun q => s0_209 (h 0 (Or.inr ⟨q, rfl⟩))) (fun q => s0_205 (s0_206 (h 1 (Or.inl ⟨q, rfl⟩))))
theorem b7_17 {rm : Room} {S : List Value} {H : AHeap} {Q : Option Value → AHeap → Prop} {l0 l1 l2 l3 : Slot} {x y : Int32} (h : ∀ t : Int32, ((x = y) ∧ t = 1) ∨ ((¬ x = y) ∧ t = 0) → W7 rm 25 [l0, l1, l2, l3] (.int t :: S) H Q) : W7 rm 17 [l0, l1, l2, l3] (.int y :: .int x :: S) H Q := s7_17 (fun q => s7_24 (h 0 (Or.inr ⟨q, rfl⟩))) (fun q => s7_20 (s7_21 (h 1 (Or.inl ⟨q, rfl⟩))))
theorem own_six (a : Int32) : (a &&& 7) % 6 = 0 ∨ (a &&& 7) % 6 = 1 ∨ (a &&& 7) % 6 = 2 ∨ (a &&& 7) % 6 = 3 ∨ (a &&& 7) % 6 = 4 ∨ (a &&& 7) % 6 = 5 := by
  have e : (a &&& 7).toInt = a.toInt % 2 ^ 3 := Jvm.Kit.i32_mask a 7 (k := 3) (by decide) (by decide)
  have s : (6 : Int32).toInt = 6 := by decide
  have h : ((a &&& 7) % 6).toInt = (a.toInt % 2 ^ 3) % 6 := by rw [Int32.toInt_mod, s, e, Int.tmod_eq_emod_of_nonneg (by omega)]
  simp only [← Int32.toInt_inj, h, Int32.reduceToInt]
  omega
theorem own_r0 (a b c d e : Int32) : M1 ⟨1, 1, 8, 12⟩ [.ref 1] [(.inr (.int, [.int a, .int b, .int c, .int d, .int e]) : ACell), (.inl (0, [.null, .int 0]) : ACell)] (Is none [(.inr (.int, [.int a, .int b, .int c, .int d, .int e]) : ACell), (.inl (0, [.ref 2, .int 0]) : ACell), (.inr (.int, [.int 0, .int 0, .int 0, .int 0, .int 0, .int 0, .int 0, .int 0]) : ACell)]) := by
  refine e1 ?_
  refine s1_0 ?_
  refine s1_1 rfl ?_
  refine s1_4 ?_
  refine s1_5 ?_
  refine s1_7 2 8 (by decide) rfl rfl ?_
  refine s1_9 rfl ?_
  exact s1_12 ⟨rfl, rfl⟩
theorem own_r1 (a b c d e : Int32) : M2 ⟨0, 0, 0, 0⟩ [.ref 1] [(.inr (.int, [.int a, .int b, .int c, .int d, .int e]) : ACell), (.inl (0, [.ref 2, .int 0]) : ACell), (.inr (.int, [.int 0, .int 0, .int 0, .int 0, .int 0, .int 0, .int 0, .int 0]) : ACell)] (Is none [(.inr (.int, [.int a, .int b, .int c, .int d, .int e]) : ACell), (.inl (0, [.ref 2, .int 0]) : ACell), (.inr (.int, [.int 0, .int 0, .int 0, .int 0, .int 0, .int 0, .int 0, .int 0]) : ACell)]) := by
  refine e2 ?_
  refine s2_0 ?_
  refine s2_1 rfl ?_
  refine s2_2 ?_
  refine s2_3 rfl ?_
  refine s2_6 ?_
  refine s2_7 ?_
  refine s2_8 rfl ?_
  refine s2_9 ?_
  refine s2_10 ?_
  refine s2_11 (fun _ => ?_) (fun h => absurd h (by decide))
  exact s2_49 ⟨rfl, rfl⟩
theorem own_r2 (a b c d e : Int32) : M3 ⟨0, 0, 0, 0⟩ [.ref 1] [(.inr (.int, [.int a, .int b, .int c, .int d, .int e]) : ACell), (.inl (0, [.ref 2, .int 0]) : ACell), (.inr (.int, [.int 0, .int 0, .int 0, .int 0, .int 0, .int 0, .int 0, .int 0]) : ACell)] (Is (some (.int 0)) [(.inr (.int, [.int a, .int b, .int c, .int d, .int e]) : ACell), (.inl (0, [.ref 2, .int 0]) : ACell), (.inr (.int, [.int 0, .int 0, .int 0, .int 0, .int 0, .int 0, .int 0, .int 0]) : ACell)]) := by
  refine e3 ?_
  refine s3_0 ?_
  refine s3_1 rfl ?_
  exact s3_4 ⟨rfl, rfl⟩
theorem own_r3 (a b c d e : Int32) : M6 ⟨0, 0, 0, 0⟩ [.int 8, .int 0] [(.inr (.int, [.int a, .int b, .int c, .int d, .int e]) : ACell), (.inl (0, [.ref 2, .int 0]) : ACell), (.inr (.int, [.int 0, .int 0, .int 0, .int 0, .int 0, .int 0, .int 0, .int 0]) : ACell), (.inr (.int, []) : ACell)] (Is (some (.int 0)) [(.inr (.int, [.int a, .int b, .int c, .int d, .int e]) : ACell), (.inl (0, [.ref 2, .int 0]) : ACell), (.inr (.int, [.int 0, .int 0, .int 0, .int 0, .int 0, .int 0, .int 0, .int 0]) : ACell), (.inr (.int, []) : ACell)]) := by
  refine e6 ?_
  refine s6_0 ?_
  refine s6_1 ?_
  refine s6_2 (fun _ => ?_) (fun h => absurd h (by decide))
  refine s6_9 ?_
  exact s6_10 ⟨rfl, rfl⟩
theorem own_r4 (a b c d e : Int32) : M5 ⟨1, 1, 0, 18⟩ [.ref 2, .int 0] [(.inr (.int, [.int a, .int b, .int c, .int d, .int e]) : ACell), (.inl (0, [.ref 2, .int 0]) : ACell), (.inr (.int, [.int 0, .int 0, .int 0, .int 0, .int 0, .int 0, .int 0, .int 0]) : ACell)] (Is (some (.ref 3)) [(.inr (.int, [.int a, .int b, .int c, .int d, .int e]) : ACell), (.inl (0, [.ref 2, .int 0]) : ACell), (.inr (.int, [.int 0, .int 0, .int 0, .int 0, .int 0, .int 0, .int 0, .int 0]) : ACell), (.inr (.int, []) : ACell)]) := by
  refine e5 ?_
  refine s5_0 ?_
  refine s5_1 ?_
  refine s5_2k 8 rfl rfl ?_
  refine s5_3 (fun _ => ?_) (fun h => absurd h (by decide))
  refine s5_14 ?_
  refine s5_15 3 0 (by decide) rfl rfl ?_
  refine s5_17 rfl ?_
  refine s5_18 ?_
  refine s5_19 ?_
  refine s5_20 ?_
  refine s5_21 ?_
  refine s5_22 ?_
  refine s5_23k 8 rfl rfl ?_
  refine s5_24 ?_
  refine s5_25 (own_r3 a b c d e) rfl ?_
  refine s5_28 0 rfl rfl (by decide) rfl rfl rfl ?_
  refine s5_31 ?_
  exact s5_32 ⟨rfl, rfl⟩
theorem own_r5 (a b c d e : Int32) : M4 ⟨2, 1, 0, 32⟩ [.ref 1] [(.inr (.int, [.int a, .int b, .int c, .int d, .int e]) : ACell), (.inl (0, [.ref 2, .int 0]) : ACell), (.inr (.int, [.int 0, .int 0, .int 0, .int 0, .int 0, .int 0, .int 0, .int 0]) : ACell)] (Is (some (.ref 3)) [(.inr (.int, [.int a, .int b, .int c, .int d, .int e]) : ACell), (.inl (0, [.ref 2, .int 0]) : ACell), (.inr (.int, [.int 0, .int 0, .int 0, .int 0, .int 0, .int 0, .int 0, .int 0]) : ACell), (.inr (.int, []) : ACell)]) := by
  refine e4 ?_
  refine s4_0 ?_
  refine s4_1 rfl ?_
  refine s4_4 ?_
  refine s4_5 rfl ?_
  refine s4_8 (own_r4 a b c d e) rfl ?_
  exact s4_11 ⟨rfl, rfl⟩
theorem own_r6 (a b c d e : Int32) : M7 ⟨0, 0, 0, 0⟩ [.ref 3, .ref 0, .int 0, .int 0] [(.inr (.int, [.int a, .int b, .int c, .int d, .int e]) : ACell), (.inl (0, [.ref 2, .int 0]) : ACell), (.inr (.int, [.int 0, .int 0, .int 0, .int 0, .int 0, .int 0, .int 0, .int 0]) : ACell), (.inr (.int, []) : ACell)] (Is (some (.int 1)) [(.inr (.int, [.int a, .int b, .int c, .int d, .int e]) : ACell), (.inl (0, [.ref 2, .int 0]) : ACell), (.inr (.int, [.int 0, .int 0, .int 0, .int 0, .int 0, .int 0, .int 0, .int 0]) : ACell), (.inr (.int, []) : ACell)]) := by
  refine e7 ?_
  refine s7_0 ?_
  refine s7_1 ?_
  refine s7_2 (fun h => absurd h (by decide)) (fun _ => ?_)
  refine s7_5 ?_
  exact s7_6 ⟨rfl, rfl⟩
theorem own_r7 (a b c d e : Int32) : M7 ⟨0, 0, 0, 0⟩ [.ref 3, .ref 0, .int 0, .int 1] [(.inr (.int, [.int a, .int b, .int c, .int d, .int e]) : ACell), (.inl (0, [.ref 2, .int 0]) : ACell), (.inr (.int, [.int 0, .int 0, .int 0, .int 0, .int 0, .int 0, .int 0, .int 0]) : ACell), (.inr (.int, []) : ACell)] (Is (some (.int 1)) [(.inr (.int, [.int a, .int b, .int c, .int d, .int e]) : ACell), (.inl (0, [.ref 2, .int 0]) : ACell), (.inr (.int, [.int 0, .int 0, .int 0, .int 0, .int 0, .int 0, .int 0, .int 0]) : ACell), (.inr (.int, []) : ACell)]) := by
  refine e7 ?_
  refine s7_0 ?_
  refine s7_1 ?_
  refine s7_2 (fun h => absurd h (by decide)) (fun _ => ?_)
  refine s7_5 ?_
  exact s7_6 ⟨rfl, rfl⟩
theorem own_r8 (a b c d e : Int32) : M7 ⟨0, 0, 0, 0⟩ [.ref 3, .ref 0, .int 0, .int 2] [(.inr (.int, [.int a, .int b, .int c, .int d, .int e]) : ACell), (.inl (0, [.ref 2, .int 0]) : ACell), (.inr (.int, [.int 0, .int 0, .int 0, .int 0, .int 0, .int 0, .int 0, .int 0]) : ACell), (.inr (.int, []) : ACell)] (Is (some (.int 1)) [(.inr (.int, [.int a, .int b, .int c, .int d, .int e]) : ACell), (.inl (0, [.ref 2, .int 0]) : ACell), (.inr (.int, [.int 0, .int 0, .int 0, .int 0, .int 0, .int 0, .int 0, .int 0]) : ACell), (.inr (.int, []) : ACell)]) := by
  refine e7 ?_
  refine s7_0 ?_
  refine s7_1 ?_
  refine s7_2 (fun h => absurd h (by decide)) (fun _ => ?_)
  refine s7_5 ?_
  exact s7_6 ⟨rfl, rfl⟩
theorem own_r9 (a b c d e : Int32) : M7 ⟨0, 0, 0, 0⟩ [.ref 3, .ref 0, .int 0, .int 3] [(.inr (.int, [.int a, .int b, .int c, .int d, .int e]) : ACell), (.inl (0, [.ref 2, .int 0]) : ACell), (.inr (.int, [.int 0, .int 0, .int 0, .int 0, .int 0, .int 0, .int 0, .int 0]) : ACell), (.inr (.int, []) : ACell)] (Is (some (.int 1)) [(.inr (.int, [.int a, .int b, .int c, .int d, .int e]) : ACell), (.inl (0, [.ref 2, .int 0]) : ACell), (.inr (.int, [.int 0, .int 0, .int 0, .int 0, .int 0, .int 0, .int 0, .int 0]) : ACell), (.inr (.int, []) : ACell)]) := by
  refine e7 ?_
  refine s7_0 ?_
  refine s7_1 ?_
  refine s7_2 (fun h => absurd h (by decide)) (fun _ => ?_)
  refine s7_5 ?_
  exact s7_6 ⟨rfl, rfl⟩
theorem own_r10 (a b c d e : Int32) : M7 ⟨0, 0, 0, 0⟩ [.ref 3, .ref 0, .int 0, .int 4] [(.inr (.int, [.int a, .int b, .int c, .int d, .int e]) : ACell), (.inl (0, [.ref 2, .int 0]) : ACell), (.inr (.int, [.int 0, .int 0, .int 0, .int 0, .int 0, .int 0, .int 0, .int 0]) : ACell), (.inr (.int, []) : ACell)] (Is (some (.int 1)) [(.inr (.int, [.int a, .int b, .int c, .int d, .int e]) : ACell), (.inl (0, [.ref 2, .int 0]) : ACell), (.inr (.int, [.int 0, .int 0, .int 0, .int 0, .int 0, .int 0, .int 0, .int 0]) : ACell), (.inr (.int, []) : ACell)]) := by
  refine e7 ?_
  refine s7_0 ?_
  refine s7_1 ?_
  refine s7_2 (fun h => absurd h (by decide)) (fun _ => ?_)
  refine s7_5 ?_
  exact s7_6 ⟨rfl, rfl⟩
theorem own_r11 (a b c d e : Int32) : M8 ⟨0, 0, 0, 0⟩ [.ref 1, .int a] [(.inr (.int, [.int a, .int b, .int c, .int d, .int e]) : ACell), (.inl (0, [.ref 2, .int 0]) : ACell), (.inr (.int, [.int 0, .int 0, .int 0, .int 0, .int 0, .int 0, .int 0, .int 0]) : ACell)] (Is none [(.inr (.int, [.int a, .int b, .int c, .int d, .int e]) : ACell), (.inl (0, [.ref 2, .int 1]) : ACell), (.inr (.int, [.int a, .int 0, .int 0, .int 0, .int 0, .int 0, .int 0, .int 0]) : ACell)]) := by
  refine e8 ?_
  refine s8_0 ?_
  refine s8_1 rfl ?_
  refine s8_4 ?_
  refine s8_5 rfl ?_
  refine s8_8k 8 rfl rfl ?_
  refine s8_9 (fun _ => ?_) (fun h => absurd h (by decide))
  refine s8_29 ?_
  refine s8_30 rfl ?_
  refine s8_33 ?_
  refine s8_34 rfl ?_
  refine s8_35 rfl ?_
  refine s8_38 rfl rfl ?_
  refine s8_39 ?_
  refine s8_40 ?_
  refine s8_41 rfl ?_
  refine s8_44 ?_
  refine s8_45 0 rfl (by decide) rfl ?_
  exact s8_46 ⟨rfl, rfl⟩
theorem own_r12 (a b c d e : Int32) : M2 ⟨0, 0, 0, 0⟩ [.ref 1] [(.inr (.int, [.int a, .int b, .int c, .int d, .int e]) : ACell), (.inl (0, [.ref 2, .int 1]) : ACell), (.inr (.int, [.int a, .int 0, .int 0, .int 0, .int 0, .int 0, .int 0, .int 0]) : ACell)] (Is none [(.inr (.int, [.int a, .int b, .int c, .int d, .int e]) : ACell), (.inl (0, [.ref 2, .int 1]) : ACell), (.inr (.int, [.int a, .int 0, .int 0, .int 0, .int 0, .int 0, .int 0, .int 0]) : ACell)]) := by
  refine e2 ?_
  refine s2_0 ?_
  refine s2_1 rfl ?_
  refine s2_2 ?_
  refine s2_3 rfl ?_
  refine s2_6 ?_
  refine s2_7 ?_
  refine s2_8 rfl ?_
  refine s2_9 ?_
  refine s2_10 ?_
  refine s2_11 (fun _ => ?_) (fun h => absurd h (by decide))
  exact s2_49 ⟨rfl, rfl⟩
theorem own_r13 (a b c d e : Int32) : M3 ⟨0, 0, 0, 0⟩ [.ref 1] [(.inr (.int, [.int a, .int b, .int c, .int d, .int e]) : ACell), (.inl (0, [.ref 2, .int 1]) : ACell), (.inr (.int, [.int a, .int 0, .int 0, .int 0, .int 0, .int 0, .int 0, .int 0]) : ACell)] (Is (some (.int 1)) [(.inr (.int, [.int a, .int b, .int c, .int d, .int e]) : ACell), (.inl (0, [.ref 2, .int 1]) : ACell), (.inr (.int, [.int a, .int 0, .int 0, .int 0, .int 0, .int 0, .int 0, .int 0]) : ACell)]) := by
  refine e3 ?_
  refine s3_0 ?_
  refine s3_1 rfl ?_
  exact s3_4 ⟨rfl, rfl⟩
theorem own_r14 (a b c d e : Int32) : M6 ⟨0, 0, 0, 0⟩ [.int 8, .int 1] [(.inr (.int, [.int a, .int b, .int c, .int d, .int e]) : ACell), (.inl (0, [.ref 2, .int 1]) : ACell), (.inr (.int, [.int a, .int 0, .int 0, .int 0, .int 0, .int 0, .int 0, .int 0]) : ACell), (.inr (.int, [.int 0]) : ACell)] (Is (some (.int 1)) [(.inr (.int, [.int a, .int b, .int c, .int d, .int e]) : ACell), (.inl (0, [.ref 2, .int 1]) : ACell), (.inr (.int, [.int a, .int 0, .int 0, .int 0, .int 0, .int 0, .int 0, .int 0]) : ACell), (.inr (.int, [.int 0]) : ACell)]) := by
  refine e6 ?_
  refine s6_0 ?_
  refine s6_1 ?_
  refine s6_2 (fun _ => ?_) (fun h => absurd h (by decide))
  refine s6_9 ?_
  exact s6_10 ⟨rfl, rfl⟩
theorem own_r15 (a b c d e : Int32) : M5 ⟨1, 1, 1, 18⟩ [.ref 2, .int 1] [(.inr (.int, [.int a, .int b, .int c, .int d, .int e]) : ACell), (.inl (0, [.ref 2, .int 1]) : ACell), (.inr (.int, [.int a, .int 0, .int 0, .int 0, .int 0, .int 0, .int 0, .int 0]) : ACell)] (Is (some (.ref 3)) [(.inr (.int, [.int a, .int b, .int c, .int d, .int e]) : ACell), (.inl (0, [.ref 2, .int 1]) : ACell), (.inr (.int, [.int a, .int 0, .int 0, .int 0, .int 0, .int 0, .int 0, .int 0]) : ACell), (.inr (.int, [.int a]) : ACell)]) := by
  refine e5 ?_
  refine s5_0 ?_
  refine s5_1 ?_
  refine s5_2k 8 rfl rfl ?_
  refine s5_3 (fun _ => ?_) (fun h => absurd h (by decide))
  refine s5_14 ?_
  refine s5_15 3 1 (by decide) rfl rfl ?_
  refine s5_17 rfl ?_
  refine s5_18 ?_
  refine s5_19 ?_
  refine s5_20 ?_
  refine s5_21 ?_
  refine s5_22 ?_
  refine s5_23k 8 rfl rfl ?_
  refine s5_24 ?_
  refine s5_25 (own_r14 a b c d e) rfl ?_
  refine s5_28 1 rfl rfl (by decide) rfl rfl rfl ?_
  refine s5_31 ?_
  exact s5_32 ⟨rfl, rfl⟩
theorem own_r16 (a b c d e : Int32) : M4 ⟨2, 1, 1, 32⟩ [.ref 1] [(.inr (.int, [.int a, .int b, .int c, .int d, .int e]) : ACell), (.inl (0, [.ref 2, .int 1]) : ACell), (.inr (.int, [.int a, .int 0, .int 0, .int 0, .int 0, .int 0, .int 0, .int 0]) : ACell)] (Is (some (.ref 3)) [(.inr (.int, [.int a, .int b, .int c, .int d, .int e]) : ACell), (.inl (0, [.ref 2, .int 1]) : ACell), (.inr (.int, [.int a, .int 0, .int 0, .int 0, .int 0, .int 0, .int 0, .int 0]) : ACell), (.inr (.int, [.int a]) : ACell)]) := by
  refine e4 ?_
  refine s4_0 ?_
  refine s4_1 rfl ?_
  refine s4_4 ?_
  refine s4_5 rfl ?_
  refine s4_8 (own_r15 a b c d e) rfl ?_
  exact s4_11 ⟨rfl, rfl⟩
theorem own_r17 (a b c d e : Int32) : M7 ⟨0, 0, 0, 0⟩ [.ref 3, .ref 0, .int 1, .int 0] [(.inr (.int, [.int a, .int b, .int c, .int d, .int e]) : ACell), (.inl (0, [.ref 2, .int 1]) : ACell), (.inr (.int, [.int a, .int 0, .int 0, .int 0, .int 0, .int 0, .int 0, .int 0]) : ACell), (.inr (.int, [.int a]) : ACell)] (Is (some (.int 1)) [(.inr (.int, [.int a, .int b, .int c, .int d, .int e]) : ACell), (.inl (0, [.ref 2, .int 1]) : ACell), (.inr (.int, [.int a, .int 0, .int 0, .int 0, .int 0, .int 0, .int 0, .int 0]) : ACell), (.inr (.int, [.int a]) : ACell)]) := by
  refine e7 ?_
  refine s7_0 ?_
  refine s7_1 ?_
  refine s7_2 (fun _ => ?_) (fun h => absurd h (by decide))
  refine s7_7 ?_
  refine s7_8 ?_
  refine s7_9 0 rfl (by decide) rfl ?_
  refine s7_10 ?_
  refine s7_11 ?_
  refine s7_12 ?_
  refine s7_13 ?_
  refine s7_14 ?_
  refine s7_15 ?_
  refine s7_16 0 rfl (by decide) rfl ?_
  refine s7_17 (fun h => absurd rfl h) (fun _ => ?_)
  refine s7_20 ?_
  refine s7_21 ?_
  exact s7_25 ⟨rfl, rfl⟩
theorem own_r18 (a b c d e : Int32) : M7 ⟨0, 0, 0, 0⟩ [.ref 3, .ref 0, .int 1, .int 1] [(.inr (.int, [.int a, .int b, .int c, .int d, .int e]) : ACell), (.inl (0, [.ref 2, .int 1]) : ACell), (.inr (.int, [.int a, .int 0, .int 0, .int 0, .int 0, .int 0, .int 0, .int 0]) : ACell), (.inr (.int, [.int a]) : ACell)] (Is (some (.int 1)) [(.inr (.int, [.int a, .int b, .int c, .int d, .int e]) : ACell), (.inl (0, [.ref 2, .int 1]) : ACell), (.inr (.int, [.int a, .int 0, .int 0, .int 0, .int 0, .int 0, .int 0, .int 0]) : ACell), (.inr (.int, [.int a]) : ACell)]) := by
  refine e7 ?_
  refine s7_0 ?_
  refine s7_1 ?_
  refine s7_2 (fun h => absurd h (by decide)) (fun _ => ?_)
  refine s7_5 ?_
  exact s7_6 ⟨rfl, rfl⟩
theorem own_r19 (a b c d e : Int32) : M7 ⟨0, 0, 0, 0⟩ [.ref 3, .ref 0, .int 1, .int 2] [(.inr (.int, [.int a, .int b, .int c, .int d, .int e]) : ACell), (.inl (0, [.ref 2, .int 1]) : ACell), (.inr (.int, [.int a, .int 0, .int 0, .int 0, .int 0, .int 0, .int 0, .int 0]) : ACell), (.inr (.int, [.int a]) : ACell)] (Is (some (.int 1)) [(.inr (.int, [.int a, .int b, .int c, .int d, .int e]) : ACell), (.inl (0, [.ref 2, .int 1]) : ACell), (.inr (.int, [.int a, .int 0, .int 0, .int 0, .int 0, .int 0, .int 0, .int 0]) : ACell), (.inr (.int, [.int a]) : ACell)]) := by
  refine e7 ?_
  refine s7_0 ?_
  refine s7_1 ?_
  refine s7_2 (fun h => absurd h (by decide)) (fun _ => ?_)
  refine s7_5 ?_
  exact s7_6 ⟨rfl, rfl⟩
theorem own_r20 (a b c d e : Int32) : M7 ⟨0, 0, 0, 0⟩ [.ref 3, .ref 0, .int 1, .int 3] [(.inr (.int, [.int a, .int b, .int c, .int d, .int e]) : ACell), (.inl (0, [.ref 2, .int 1]) : ACell), (.inr (.int, [.int a, .int 0, .int 0, .int 0, .int 0, .int 0, .int 0, .int 0]) : ACell), (.inr (.int, [.int a]) : ACell)] (Is (some (.int 1)) [(.inr (.int, [.int a, .int b, .int c, .int d, .int e]) : ACell), (.inl (0, [.ref 2, .int 1]) : ACell), (.inr (.int, [.int a, .int 0, .int 0, .int 0, .int 0, .int 0, .int 0, .int 0]) : ACell), (.inr (.int, [.int a]) : ACell)]) := by
  refine e7 ?_
  refine s7_0 ?_
  refine s7_1 ?_
  refine s7_2 (fun h => absurd h (by decide)) (fun _ => ?_)
  refine s7_5 ?_
  exact s7_6 ⟨rfl, rfl⟩
theorem own_r21 (a b c d e : Int32) : M7 ⟨0, 0, 0, 0⟩ [.ref 3, .ref 0, .int 1, .int 4] [(.inr (.int, [.int a, .int b, .int c, .int d, .int e]) : ACell), (.inl (0, [.ref 2, .int 1]) : ACell), (.inr (.int, [.int a, .int 0, .int 0, .int 0, .int 0, .int 0, .int 0, .int 0]) : ACell), (.inr (.int, [.int a]) : ACell)] (Is (some (.int 1)) [(.inr (.int, [.int a, .int b, .int c, .int d, .int e]) : ACell), (.inl (0, [.ref 2, .int 1]) : ACell), (.inr (.int, [.int a, .int 0, .int 0, .int 0, .int 0, .int 0, .int 0, .int 0]) : ACell), (.inr (.int, [.int a]) : ACell)]) := by
  refine e7 ?_
  refine s7_0 ?_
  refine s7_1 ?_
  refine s7_2 (fun h => absurd h (by decide)) (fun _ => ?_)
  refine s7_5 ?_
  exact s7_6 ⟨rfl, rfl⟩
theorem own_r22 (a b c d e : Int32) : M8 ⟨0, 0, 0, 0⟩ [.ref 1, .int b] [(.inr (.int, [.int a, .int b, .int c, .int d, .int e]) : ACell), (.inl (0, [.ref 2, .int 1]) : ACell), (.inr (.int, [.int a, .int 0, .int 0, .int 0, .int 0, .int 0, .int 0, .int 0]) : ACell)] (Is none [(.inr (.int, [.int a, .int b, .int c, .int d, .int e]) : ACell), (.inl (0, [.ref 2, .int 2]) : ACell), (.inr (.int, [.int a, .int b, .int 0, .int 0, .int 0, .int 0, .int 0, .int 0]) : ACell)]) := by
  refine e8 ?_
  refine s8_0 ?_
  refine s8_1 rfl ?_
  refine s8_4 ?_
  refine s8_5 rfl ?_
  refine s8_8k 8 rfl rfl ?_
  refine s8_9 (fun _ => ?_) (fun h => absurd h (by decide))
  refine s8_29 ?_
  refine s8_30 rfl ?_
  refine s8_33 ?_
  refine s8_34 rfl ?_
  refine s8_35 rfl ?_
  refine s8_38 rfl rfl ?_
  refine s8_39 ?_
  refine s8_40 ?_
  refine s8_41 rfl ?_
  refine s8_44 ?_
  refine s8_45 1 rfl (by decide) rfl ?_
  exact s8_46 ⟨rfl, rfl⟩
theorem own_r23 (a b c d e : Int32) : M2 ⟨0, 0, 0, 0⟩ [.ref 1] [(.inr (.int, [.int a, .int b, .int c, .int d, .int e]) : ACell), (.inl (0, [.ref 2, .int 2]) : ACell), (.inr (.int, [.int a, .int b, .int 0, .int 0, .int 0, .int 0, .int 0, .int 0]) : ACell)] (Is none [(.inr (.int, [.int a, .int b, .int c, .int d, .int e]) : ACell), (.inl (0, [.ref 2, .int 2]) : ACell), (.inr (.int, [.int b, .int a, .int 0, .int 0, .int 0, .int 0, .int 0, .int 0]) : ACell)]) := by
  refine e2 ?_
  refine s2_0 ?_
  refine s2_1 rfl ?_
  refine s2_2 ?_
  refine s2_3 rfl ?_
  refine s2_6 ?_
  refine s2_7 ?_
  refine s2_8 rfl ?_
  refine s2_9 ?_
  refine s2_10 ?_
  refine s2_11 (fun h => absurd h (by decide)) (fun _ => ?_)
  refine s2_14 ?_
  refine s2_15 rfl ?_
  refine s2_18 ?_
  refine s2_19 0 rfl (by decide) rfl ?_
  refine s2_20 rfl ?_
  refine s2_21 ?_
  refine s2_22 rfl ?_
  refine s2_25 ?_
  refine s2_26 ?_
  refine s2_27 rfl ?_
  refine s2_30 ?_
  refine s2_31 1 rfl (by decide) rfl ?_
  refine s2_32 0 rfl (by decide) rfl ?_
  refine s2_33 ?_
  refine s2_34 rfl ?_
  refine s2_37 ?_
  refine s2_38 ?_
  refine s2_39 1 rfl (by decide) rfl ?_
  refine s2_40 ?_
  refine s2_43 ?_
  refine s2_46 ?_
  refine s2_9 ?_
  refine s2_10 ?_
  refine s2_11 (fun _ => ?_) (fun h => absurd h (by decide))
  exact s2_49 ⟨rfl, rfl⟩
theorem own_r24 (a b c d e : Int32) : M3 ⟨0, 0, 0, 0⟩ [.ref 1] [(.inr (.int, [.int a, .int b, .int c, .int d, .int e]) : ACell), (.inl (0, [.ref 2, .int 2]) : ACell), (.inr (.int, [.int b, .int a, .int 0, .int 0, .int 0, .int 0, .int 0, .int 0]) : ACell)] (Is (some (.int 2)) [(.inr (.int, [.int a, .int b, .int c, .int d, .int e]) : ACell), (.inl (0, [.ref 2, .int 2]) : ACell), (.inr (.int, [.int b, .int a, .int 0, .int 0, .int 0, .int 0, .int 0, .int 0]) : ACell)]) := by
  refine e3 ?_
  refine s3_0 ?_
  refine s3_1 rfl ?_
  exact s3_4 ⟨rfl, rfl⟩
theorem own_r25 (a b c d e : Int32) : M6 ⟨0, 0, 0, 0⟩ [.int 8, .int 2] [(.inr (.int, [.int a, .int b, .int c, .int d, .int e]) : ACell), (.inl (0, [.ref 2, .int 2]) : ACell), (.inr (.int, [.int b, .int a, .int 0, .int 0, .int 0, .int 0, .int 0, .int 0]) : ACell), (.inr (.int, [.int 0, .int 0]) : ACell)] (Is (some (.int 2)) [(.inr (.int, [.int a, .int b, .int c, .int d, .int e]) : ACell), (.inl (0, [.ref 2, .int 2]) : ACell), (.inr (.int, [.int b, .int a, .int 0, .int 0, .int 0, .int 0, .int 0, .int 0]) : ACell), (.inr (.int, [.int 0, .int 0]) : ACell)]) := by
  refine e6 ?_
  refine s6_0 ?_
  refine s6_1 ?_
  refine s6_2 (fun _ => ?_) (fun h => absurd h (by decide))
  refine s6_9 ?_
  exact s6_10 ⟨rfl, rfl⟩
theorem own_r26 (a b c d e : Int32) : M5 ⟨1, 1, 2, 18⟩ [.ref 2, .int 2] [(.inr (.int, [.int a, .int b, .int c, .int d, .int e]) : ACell), (.inl (0, [.ref 2, .int 2]) : ACell), (.inr (.int, [.int b, .int a, .int 0, .int 0, .int 0, .int 0, .int 0, .int 0]) : ACell)] (Is (some (.ref 3)) [(.inr (.int, [.int a, .int b, .int c, .int d, .int e]) : ACell), (.inl (0, [.ref 2, .int 2]) : ACell), (.inr (.int, [.int b, .int a, .int 0, .int 0, .int 0, .int 0, .int 0, .int 0]) : ACell), (.inr (.int, [.int b, .int a]) : ACell)]) := by
  refine e5 ?_
  refine s5_0 ?_
  refine s5_1 ?_
  refine s5_2k 8 rfl rfl ?_
  refine s5_3 (fun _ => ?_) (fun h => absurd h (by decide))
  refine s5_14 ?_
  refine s5_15 3 2 (by decide) rfl rfl ?_
  refine s5_17 rfl ?_
  refine s5_18 ?_
  refine s5_19 ?_
  refine s5_20 ?_
  refine s5_21 ?_
  refine s5_22 ?_
  refine s5_23k 8 rfl rfl ?_
  refine s5_24 ?_
  refine s5_25 (own_r25 a b c d e) rfl ?_
  refine s5_28 2 rfl rfl (by decide) rfl rfl rfl ?_
  refine s5_31 ?_
  exact s5_32 ⟨rfl, rfl⟩
theorem own_r27 (a b c d e : Int32) : M4 ⟨2, 1, 2, 32⟩ [.ref 1] [(.inr (.int, [.int a, .int b, .int c, .int d, .int e]) : ACell), (.inl (0, [.ref 2, .int 2]) : ACell), (.inr (.int, [.int b, .int a, .int 0, .int 0, .int 0, .int 0, .int 0, .int 0]) : ACell)] (Is (some (.ref 3)) [(.inr (.int, [.int a, .int b, .int c, .int d, .int e]) : ACell), (.inl (0, [.ref 2, .int 2]) : ACell), (.inr (.int, [.int b, .int a, .int 0, .int 0, .int 0, .int 0, .int 0, .int 0]) : ACell), (.inr (.int, [.int b, .int a]) : ACell)]) := by
  refine e4 ?_
  refine s4_0 ?_
  refine s4_1 rfl ?_
  refine s4_4 ?_
  refine s4_5 rfl ?_
  refine s4_8 (own_r26 a b c d e) rfl ?_
  exact s4_11 ⟨rfl, rfl⟩
theorem own_r28 (a b c d e : Int32) : M7 ⟨0, 0, 0, 0⟩ [.ref 3, .ref 0, .int 2, .int 0] [(.inr (.int, [.int a, .int b, .int c, .int d, .int e]) : ACell), (.inl (0, [.ref 2, .int 2]) : ACell), (.inr (.int, [.int b, .int a, .int 0, .int 0, .int 0, .int 0, .int 0, .int 0]) : ACell), (.inr (.int, [.int b, .int a]) : ACell)] (Is (some (.int 1)) [(.inr (.int, [.int a, .int b, .int c, .int d, .int e]) : ACell), (.inl (0, [.ref 2, .int 2]) : ACell), (.inr (.int, [.int b, .int a, .int 0, .int 0, .int 0, .int 0, .int 0, .int 0]) : ACell), (.inr (.int, [.int b, .int a]) : ACell)]) := by
  refine e7 ?_
  refine s7_0 ?_
  refine s7_1 ?_
  refine s7_2 (fun _ => ?_) (fun h => absurd h (by decide))
  refine s7_7 ?_
  refine s7_8 ?_
  refine s7_9 0 rfl (by decide) rfl ?_
  refine s7_10 ?_
  refine s7_11 ?_
  refine s7_12 ?_
  refine s7_13 ?_
  refine s7_14 ?_
  refine s7_15 ?_
  refine s7_16 1 rfl (by decide) rfl ?_
  refine s7_17 (fun h => absurd rfl h) (fun _ => ?_)
  refine s7_20 ?_
  refine s7_21 ?_
  exact s7_25 ⟨rfl, rfl⟩
theorem own_r29 (a b c d e : Int32) : M7 ⟨0, 0, 0, 0⟩ [.ref 3, .ref 0, .int 2, .int 1] [(.inr (.int, [.int a, .int b, .int c, .int d, .int e]) : ACell), (.inl (0, [.ref 2, .int 2]) : ACell), (.inr (.int, [.int b, .int a, .int 0, .int 0, .int 0, .int 0, .int 0, .int 0]) : ACell), (.inr (.int, [.int b, .int a]) : ACell)] (Is (some (.int 1)) [(.inr (.int, [.int a, .int b, .int c, .int d, .int e]) : ACell), (.inl (0, [.ref 2, .int 2]) : ACell), (.inr (.int, [.int b, .int a, .int 0, .int 0, .int 0, .int 0, .int 0, .int 0]) : ACell), (.inr (.int, [.int b, .int a]) : ACell)]) := by
  refine e7 ?_
  refine s7_0 ?_
  refine s7_1 ?_
  refine s7_2 (fun _ => ?_) (fun h => absurd h (by decide))
  refine s7_7 ?_
  refine s7_8 ?_
  refine s7_9 1 rfl (by decide) rfl ?_
  refine s7_10 ?_
  refine s7_11 ?_
  refine s7_12 ?_
  refine s7_13 ?_
  refine s7_14 ?_
  refine s7_15 ?_
  refine s7_16 0 rfl (by decide) rfl ?_
  refine s7_17 (fun h => absurd rfl h) (fun _ => ?_)
  refine s7_20 ?_
  refine s7_21 ?_
  exact s7_25 ⟨rfl, rfl⟩
theorem own_r30 (a b c d e : Int32) : M7 ⟨0, 0, 0, 0⟩ [.ref 3, .ref 0, .int 2, .int 2] [(.inr (.int, [.int a, .int b, .int c, .int d, .int e]) : ACell), (.inl (0, [.ref 2, .int 2]) : ACell), (.inr (.int, [.int b, .int a, .int 0, .int 0, .int 0, .int 0, .int 0, .int 0]) : ACell), (.inr (.int, [.int b, .int a]) : ACell)] (Is (some (.int 1)) [(.inr (.int, [.int a, .int b, .int c, .int d, .int e]) : ACell), (.inl (0, [.ref 2, .int 2]) : ACell), (.inr (.int, [.int b, .int a, .int 0, .int 0, .int 0, .int 0, .int 0, .int 0]) : ACell), (.inr (.int, [.int b, .int a]) : ACell)]) := by
  refine e7 ?_
  refine s7_0 ?_
  refine s7_1 ?_
  refine s7_2 (fun h => absurd h (by decide)) (fun _ => ?_)
  refine s7_5 ?_
  exact s7_6 ⟨rfl, rfl⟩
theorem own_r31 (a b c d e : Int32) : M7 ⟨0, 0, 0, 0⟩ [.ref 3, .ref 0, .int 2, .int 3] [(.inr (.int, [.int a, .int b, .int c, .int d, .int e]) : ACell), (.inl (0, [.ref 2, .int 2]) : ACell), (.inr (.int, [.int b, .int a, .int 0, .int 0, .int 0, .int 0, .int 0, .int 0]) : ACell), (.inr (.int, [.int b, .int a]) : ACell)] (Is (some (.int 1)) [(.inr (.int, [.int a, .int b, .int c, .int d, .int e]) : ACell), (.inl (0, [.ref 2, .int 2]) : ACell), (.inr (.int, [.int b, .int a, .int 0, .int 0, .int 0, .int 0, .int 0, .int 0]) : ACell), (.inr (.int, [.int b, .int a]) : ACell)]) := by
  refine e7 ?_
  refine s7_0 ?_
  refine s7_1 ?_
  refine s7_2 (fun h => absurd h (by decide)) (fun _ => ?_)
  refine s7_5 ?_
  exact s7_6 ⟨rfl, rfl⟩
theorem own_r32 (a b c d e : Int32) : M7 ⟨0, 0, 0, 0⟩ [.ref 3, .ref 0, .int 2, .int 4] [(.inr (.int, [.int a, .int b, .int c, .int d, .int e]) : ACell), (.inl (0, [.ref 2, .int 2]) : ACell), (.inr (.int, [.int b, .int a, .int 0, .int 0, .int 0, .int 0, .int 0, .int 0]) : ACell), (.inr (.int, [.int b, .int a]) : ACell)] (Is (some (.int 1)) [(.inr (.int, [.int a, .int b, .int c, .int d, .int e]) : ACell), (.inl (0, [.ref 2, .int 2]) : ACell), (.inr (.int, [.int b, .int a, .int 0, .int 0, .int 0, .int 0, .int 0, .int 0]) : ACell), (.inr (.int, [.int b, .int a]) : ACell)]) := by
  refine e7 ?_
  refine s7_0 ?_
  refine s7_1 ?_
  refine s7_2 (fun h => absurd h (by decide)) (fun _ => ?_)
  refine s7_5 ?_
  exact s7_6 ⟨rfl, rfl⟩
theorem own_r33 (a b c d e : Int32) : M8 ⟨0, 0, 0, 0⟩ [.ref 1, .int c] [(.inr (.int, [.int a, .int b, .int c, .int d, .int e]) : ACell), (.inl (0, [.ref 2, .int 2]) : ACell), (.inr (.int, [.int a, .int b, .int 0, .int 0, .int 0, .int 0, .int 0, .int 0]) : ACell)] (Is none [(.inr (.int, [.int a, .int b, .int c, .int d, .int e]) : ACell), (.inl (0, [.ref 2, .int 3]) : ACell), (.inr (.int, [.int a, .int b, .int c, .int 0, .int 0, .int 0, .int 0, .int 0]) : ACell)]) := by
  refine e8 ?_
  refine s8_0 ?_
  refine s8_1 rfl ?_
  refine s8_4 ?_
  refine s8_5 rfl ?_
  refine s8_8k 8 rfl rfl ?_
  refine s8_9 (fun _ => ?_) (fun h => absurd h (by decide))
  refine s8_29 ?_
  refine s8_30 rfl ?_
  refine s8_33 ?_
  refine s8_34 rfl ?_
  refine s8_35 rfl ?_
  refine s8_38 rfl rfl ?_
  refine s8_39 ?_
  refine s8_40 ?_
  refine s8_41 rfl ?_
  refine s8_44 ?_
  refine s8_45 2 rfl (by decide) rfl ?_
  exact s8_46 ⟨rfl, rfl⟩
theorem own_r34 (a b c d e : Int32) : M2 ⟨0, 0, 0, 0⟩ [.ref 1] [(.inr (.int, [.int a, .int b, .int c, .int d, .int e]) : ACell), (.inl (0, [.ref 2, .int 3]) : ACell), (.inr (.int, [.int a, .int b, .int c, .int 0, .int 0, .int 0, .int 0, .int 0]) : ACell)] (Is none [(.inr (.int, [.int a, .int b, .int c, .int d, .int e]) : ACell), (.inl (0, [.ref 2, .int 3]) : ACell), (.inr (.int, [.int c, .int b, .int a, .int 0, .int 0, .int 0, .int 0, .int 0]) : ACell)]) := by
  refine e2 ?_
  refine s2_0 ?_
  refine s2_1 rfl ?_
  refine s2_2 ?_
  refine s2_3 rfl ?_
  refine s2_6 ?_
  refine s2_7 ?_
  refine s2_8 rfl ?_
  refine s2_9 ?_
  refine s2_10 ?_
  refine s2_11 (fun h => absurd h (by decide)) (fun _ => ?_)
  refine s2_14 ?_
  refine s2_15 rfl ?_
  refine s2_18 ?_
  refine s2_19 0 rfl (by decide) rfl ?_
  refine s2_20 rfl ?_
  refine s2_21 ?_
  refine s2_22 rfl ?_
  refine s2_25 ?_
  refine s2_26 ?_
  refine s2_27 rfl ?_
  refine s2_30 ?_
  refine s2_31 2 rfl (by decide) rfl ?_
  refine s2_32 0 rfl (by decide) rfl ?_
  refine s2_33 ?_
  refine s2_34 rfl ?_
  refine s2_37 ?_
  refine s2_38 ?_
  refine s2_39 2 rfl (by decide) rfl ?_
  refine s2_40 ?_
  refine s2_43 ?_
  refine s2_46 ?_
  refine s2_9 ?_
  refine s2_10 ?_
  refine s2_11 (fun _ => ?_) (fun h => absurd h (by decide))
  exact s2_49 ⟨rfl, rfl⟩
theorem own_r35 (a b c d e : Int32) : M3 ⟨0, 0, 0, 0⟩ [.ref 1] [(.inr (.int, [.int a, .int b, .int c, .int d, .int e]) : ACell), (.inl (0, [.ref 2, .int 3]) : ACell), (.inr (.int, [.int c, .int b, .int a, .int 0, .int 0, .int 0, .int 0, .int 0]) : ACell)] (Is (some (.int 3)) [(.inr (.int, [.int a, .int b, .int c, .int d, .int e]) : ACell), (.inl (0, [.ref 2, .int 3]) : ACell), (.inr (.int, [.int c, .int b, .int a, .int 0, .int 0, .int 0, .int 0, .int 0]) : ACell)]) := by
  refine e3 ?_
  refine s3_0 ?_
  refine s3_1 rfl ?_
  exact s3_4 ⟨rfl, rfl⟩
theorem own_r36 (a b c d e : Int32) : M6 ⟨0, 0, 0, 0⟩ [.int 8, .int 3] [(.inr (.int, [.int a, .int b, .int c, .int d, .int e]) : ACell), (.inl (0, [.ref 2, .int 3]) : ACell), (.inr (.int, [.int c, .int b, .int a, .int 0, .int 0, .int 0, .int 0, .int 0]) : ACell), (.inr (.int, [.int 0, .int 0, .int 0]) : ACell)] (Is (some (.int 3)) [(.inr (.int, [.int a, .int b, .int c, .int d, .int e]) : ACell), (.inl (0, [.ref 2, .int 3]) : ACell), (.inr (.int, [.int c, .int b, .int a, .int 0, .int 0, .int 0, .int 0, .int 0]) : ACell), (.inr (.int, [.int 0, .int 0, .int 0]) : ACell)]) := by
  refine e6 ?_
  refine s6_0 ?_
  refine s6_1 ?_
  refine s6_2 (fun _ => ?_) (fun h => absurd h (by decide))
  refine s6_9 ?_
  exact s6_10 ⟨rfl, rfl⟩
theorem own_r37 (a b c d e : Int32) : M5 ⟨1, 1, 3, 18⟩ [.ref 2, .int 3] [(.inr (.int, [.int a, .int b, .int c, .int d, .int e]) : ACell), (.inl (0, [.ref 2, .int 3]) : ACell), (.inr (.int, [.int c, .int b, .int a, .int 0, .int 0, .int 0, .int 0, .int 0]) : ACell)] (Is (some (.ref 3)) [(.inr (.int, [.int a, .int b, .int c, .int d, .int e]) : ACell), (.inl (0, [.ref 2, .int 3]) : ACell), (.inr (.int, [.int c, .int b, .int a, .int 0, .int 0, .int 0, .int 0, .int 0]) : ACell), (.inr (.int, [.int c, .int b, .int a]) : ACell)]) := by
  refine e5 ?_
  refine s5_0 ?_
  refine s5_1 ?_
  refine s5_2k 8 rfl rfl ?_
  refine s5_3 (fun _ => ?_) (fun h => absurd h (by decide))
  refine s5_14 ?_
  refine s5_15 3 3 (by decide) rfl rfl ?_
  refine s5_17 rfl ?_
  refine s5_18 ?_
  refine s5_19 ?_
  refine s5_20 ?_
  refine s5_21 ?_
  refine s5_22 ?_
  refine s5_23k 8 rfl rfl ?_
  refine s5_24 ?_
  refine s5_25 (own_r36 a b c d e) rfl ?_
  refine s5_28 3 rfl rfl (by decide) rfl rfl rfl ?_
  refine s5_31 ?_
  exact s5_32 ⟨rfl, rfl⟩
theorem own_r38 (a b c d e : Int32) : M4 ⟨2, 1, 3, 32⟩ [.ref 1] [(.inr (.int, [.int a, .int b, .int c, .int d, .int e]) : ACell), (.inl (0, [.ref 2, .int 3]) : ACell), (.inr (.int, [.int c, .int b, .int a, .int 0, .int 0, .int 0, .int 0, .int 0]) : ACell)] (Is (some (.ref 3)) [(.inr (.int, [.int a, .int b, .int c, .int d, .int e]) : ACell), (.inl (0, [.ref 2, .int 3]) : ACell), (.inr (.int, [.int c, .int b, .int a, .int 0, .int 0, .int 0, .int 0, .int 0]) : ACell), (.inr (.int, [.int c, .int b, .int a]) : ACell)]) := by
  refine e4 ?_
  refine s4_0 ?_
  refine s4_1 rfl ?_
  refine s4_4 ?_
  refine s4_5 rfl ?_
  refine s4_8 (own_r37 a b c d e) rfl ?_
  exact s4_11 ⟨rfl, rfl⟩
theorem own_r39 (a b c d e : Int32) : M7 ⟨0, 0, 0, 0⟩ [.ref 3, .ref 0, .int 3, .int 0] [(.inr (.int, [.int a, .int b, .int c, .int d, .int e]) : ACell), (.inl (0, [.ref 2, .int 3]) : ACell), (.inr (.int, [.int c, .int b, .int a, .int 0, .int 0, .int 0, .int 0, .int 0]) : ACell), (.inr (.int, [.int c, .int b, .int a]) : ACell)] (Is (some (.int 1)) [(.inr (.int, [.int a, .int b, .int c, .int d, .int e]) : ACell), (.inl (0, [.ref 2, .int 3]) : ACell), (.inr (.int, [.int c, .int b, .int a, .int 0, .int 0, .int 0, .int 0, .int 0]) : ACell), (.inr (.int, [.int c, .int b, .int a]) : ACell)]) := by
  refine e7 ?_
  refine s7_0 ?_
  refine s7_1 ?_
  refine s7_2 (fun _ => ?_) (fun h => absurd h (by decide))
  refine s7_7 ?_
  refine s7_8 ?_
  refine s7_9 0 rfl (by decide) rfl ?_
  refine s7_10 ?_
  refine s7_11 ?_
  refine s7_12 ?_
  refine s7_13 ?_
  refine s7_14 ?_
  refine s7_15 ?_
  refine s7_16 2 rfl (by decide) rfl ?_
  refine s7_17 (fun h => absurd rfl h) (fun _ => ?_)
  refine s7_20 ?_
  refine s7_21 ?_
  exact s7_25 ⟨rfl, rfl⟩
theorem own_r40 (a b c d e : Int32) : M7 ⟨0, 0, 0, 0⟩ [.ref 3, .ref 0, .int 3, .int 1] [(.inr (.int, [.int a, .int b, .int c, .int d, .int e]) : ACell), (.inl (0, [.ref 2, .int 3]) : ACell), (.inr (.int, [.int c, .int b, .int a, .int 0, .int 0, .int 0, .int 0, .int 0]) : ACell), (.inr (.int, [.int c, .int b, .int a]) : ACell)] (Is (some (.int 1)) [(.inr (.int, [.int a, .int b, .int c, .int d, .int e]) : ACell), (.inl (0, [.ref 2, .int 3]) : ACell), (.inr (.int, [.int c, .int b, .int a, .int 0, .int 0, .int 0, .int 0, .int 0]) : ACell), (.inr (.int, [.int c, .int b, .int a]) : ACell)]) := by
  refine e7 ?_
  refine s7_0 ?_
  refine s7_1 ?_
  refine s7_2 (fun _ => ?_) (fun h => absurd h (by decide))
  refine s7_7 ?_
  refine s7_8 ?_
  refine s7_9 1 rfl (by decide) rfl ?_
  refine s7_10 ?_
  refine s7_11 ?_
  refine s7_12 ?_
  refine s7_13 ?_
  refine s7_14 ?_
  refine s7_15 ?_
  refine s7_16 1 rfl (by decide) rfl ?_
  refine s7_17 (fun h => absurd rfl h) (fun _ => ?_)
  refine s7_20 ?_
  refine s7_21 ?_
  exact s7_25 ⟨rfl, rfl⟩
theorem own_r41 (a b c d e : Int32) : M7 ⟨0, 0, 0, 0⟩ [.ref 3, .ref 0, .int 3, .int 2] [(.inr (.int, [.int a, .int b, .int c, .int d, .int e]) : ACell), (.inl (0, [.ref 2, .int 3]) : ACell), (.inr (.int, [.int c, .int b, .int a, .int 0, .int 0, .int 0, .int 0, .int 0]) : ACell), (.inr (.int, [.int c, .int b, .int a]) : ACell)] (Is (some (.int 1)) [(.inr (.int, [.int a, .int b, .int c, .int d, .int e]) : ACell), (.inl (0, [.ref 2, .int 3]) : ACell), (.inr (.int, [.int c, .int b, .int a, .int 0, .int 0, .int 0, .int 0, .int 0]) : ACell), (.inr (.int, [.int c, .int b, .int a]) : ACell)]) := by
  refine e7 ?_
  refine s7_0 ?_
  refine s7_1 ?_
  refine s7_2 (fun _ => ?_) (fun h => absurd h (by decide))
  refine s7_7 ?_
  refine s7_8 ?_
  refine s7_9 2 rfl (by decide) rfl ?_
  refine s7_10 ?_
  refine s7_11 ?_
  refine s7_12 ?_
  refine s7_13 ?_
  refine s7_14 ?_
  refine s7_15 ?_
  refine s7_16 0 rfl (by decide) rfl ?_
  refine s7_17 (fun h => absurd rfl h) (fun _ => ?_)
  refine s7_20 ?_
  refine s7_21 ?_
  exact s7_25 ⟨rfl, rfl⟩
theorem own_r42 (a b c d e : Int32) : M7 ⟨0, 0, 0, 0⟩ [.ref 3, .ref 0, .int 3, .int 3] [(.inr (.int, [.int a, .int b, .int c, .int d, .int e]) : ACell), (.inl (0, [.ref 2, .int 3]) : ACell), (.inr (.int, [.int c, .int b, .int a, .int 0, .int 0, .int 0, .int 0, .int 0]) : ACell), (.inr (.int, [.int c, .int b, .int a]) : ACell)] (Is (some (.int 1)) [(.inr (.int, [.int a, .int b, .int c, .int d, .int e]) : ACell), (.inl (0, [.ref 2, .int 3]) : ACell), (.inr (.int, [.int c, .int b, .int a, .int 0, .int 0, .int 0, .int 0, .int 0]) : ACell), (.inr (.int, [.int c, .int b, .int a]) : ACell)]) := by
  refine e7 ?_
  refine s7_0 ?_
  refine s7_1 ?_
  refine s7_2 (fun h => absurd h (by decide)) (fun _ => ?_)
  refine s7_5 ?_
  exact s7_6 ⟨rfl, rfl⟩
theorem own_r43 (a b c d e : Int32) : M7 ⟨0, 0, 0, 0⟩ [.ref 3, .ref 0, .int 3, .int 4] [(.inr (.int, [.int a, .int b, .int c, .int d, .int e]) : ACell), (.inl (0, [.ref 2, .int 3]) : ACell), (.inr (.int, [.int c, .int b, .int a, .int 0, .int 0, .int 0, .int 0, .int 0]) : ACell), (.inr (.int, [.int c, .int b, .int a]) : ACell)] (Is (some (.int 1)) [(.inr (.int, [.int a, .int b, .int c, .int d, .int e]) : ACell), (.inl (0, [.ref 2, .int 3]) : ACell), (.inr (.int, [.int c, .int b, .int a, .int 0, .int 0, .int 0, .int 0, .int 0]) : ACell), (.inr (.int, [.int c, .int b, .int a]) : ACell)]) := by
  refine e7 ?_
  refine s7_0 ?_
  refine s7_1 ?_
  refine s7_2 (fun h => absurd h (by decide)) (fun _ => ?_)
  refine s7_5 ?_
  exact s7_6 ⟨rfl, rfl⟩
theorem own_r44 (a b c d e : Int32) : M8 ⟨0, 0, 0, 0⟩ [.ref 1, .int d] [(.inr (.int, [.int a, .int b, .int c, .int d, .int e]) : ACell), (.inl (0, [.ref 2, .int 3]) : ACell), (.inr (.int, [.int a, .int b, .int c, .int 0, .int 0, .int 0, .int 0, .int 0]) : ACell)] (Is none [(.inr (.int, [.int a, .int b, .int c, .int d, .int e]) : ACell), (.inl (0, [.ref 2, .int 4]) : ACell), (.inr (.int, [.int a, .int b, .int c, .int d, .int 0, .int 0, .int 0, .int 0]) : ACell)]) := by
  refine e8 ?_
  refine s8_0 ?_
  refine s8_1 rfl ?_
  refine s8_4 ?_
  refine s8_5 rfl ?_
  refine s8_8k 8 rfl rfl ?_
  refine s8_9 (fun _ => ?_) (fun h => absurd h (by decide))
  refine s8_29 ?_
  refine s8_30 rfl ?_
  refine s8_33 ?_
  refine s8_34 rfl ?_
  refine s8_35 rfl ?_
  refine s8_38 rfl rfl ?_
  refine s8_39 ?_
  refine s8_40 ?_
  refine s8_41 rfl ?_
  refine s8_44 ?_
  refine s8_45 3 rfl (by decide) rfl ?_
  exact s8_46 ⟨rfl, rfl⟩
theorem own_r45 (a b c d e : Int32) : M2 ⟨0, 0, 0, 0⟩ [.ref 1] [(.inr (.int, [.int a, .int b, .int c, .int d, .int e]) : ACell), (.inl (0, [.ref 2, .int 4]) : ACell), (.inr (.int, [.int a, .int b, .int c, .int d, .int 0, .int 0, .int 0, .int 0]) : ACell)] (Is none [(.inr (.int, [.int a, .int b, .int c, .int d, .int e]) : ACell), (.inl (0, [.ref 2, .int 4]) : ACell), (.inr (.int, [.int d, .int c, .int b, .int a, .int 0, .int 0, .int 0, .int 0]) : ACell)]) := by
  refine e2 ?_
  refine s2_0 ?_
  refine s2_1 rfl ?_
  refine s2_2 ?_
  refine s2_3 rfl ?_
  refine s2_6 ?_
  refine s2_7 ?_
  refine s2_8 rfl ?_
  refine s2_9 ?_
  refine s2_10 ?_
  refine s2_11 (fun h => absurd h (by decide)) (fun _ => ?_)
  refine s2_14 ?_
  refine s2_15 rfl ?_
  refine s2_18 ?_
  refine s2_19 0 rfl (by decide) rfl ?_
  refine s2_20 rfl ?_
  refine s2_21 ?_
  refine s2_22 rfl ?_
  refine s2_25 ?_
  refine s2_26 ?_
  refine s2_27 rfl ?_
  refine s2_30 ?_
  refine s2_31 3 rfl (by decide) rfl ?_
  refine s2_32 0 rfl (by decide) rfl ?_
  refine s2_33 ?_
  refine s2_34 rfl ?_
  refine s2_37 ?_
  refine s2_38 ?_
  refine s2_39 3 rfl (by decide) rfl ?_
  refine s2_40 ?_
  refine s2_43 ?_
  refine s2_46 ?_
  refine s2_9 ?_
  refine s2_10 ?_
  refine s2_11 (fun h => absurd h (by decide)) (fun _ => ?_)
  refine s2_14 ?_
  refine s2_15 rfl ?_
  refine s2_18 ?_
  refine s2_19 1 rfl (by decide) rfl ?_
  refine s2_20 rfl ?_
  refine s2_21 ?_
  refine s2_22 rfl ?_
  refine s2_25 ?_
  refine s2_26 ?_
  refine s2_27 rfl ?_
  refine s2_30 ?_
  refine s2_31 2 rfl (by decide) rfl ?_
  refine s2_32 1 rfl (by decide) rfl ?_
  refine s2_33 ?_
  refine s2_34 rfl ?_
  refine s2_37 ?_
  refine s2_38 ?_
  refine s2_39 2 rfl (by decide) rfl ?_
  refine s2_40 ?_
  refine s2_43 ?_
  refine s2_46 ?_
  refine s2_9 ?_
  refine s2_10 ?_
  refine s2_11 (fun _ => ?_) (fun h => absurd h (by decide))
  exact s2_49 ⟨rfl, rfl⟩
theorem own_r46 (a b c d e : Int32) : M3 ⟨0, 0, 0, 0⟩ [.ref 1] [(.inr (.int, [.int a, .int b, .int c, .int d, .int e]) : ACell), (.inl (0, [.ref 2, .int 4]) : ACell), (.inr (.int, [.int d, .int c, .int b, .int a, .int 0, .int 0, .int 0, .int 0]) : ACell)] (Is (some (.int 4)) [(.inr (.int, [.int a, .int b, .int c, .int d, .int e]) : ACell), (.inl (0, [.ref 2, .int 4]) : ACell), (.inr (.int, [.int d, .int c, .int b, .int a, .int 0, .int 0, .int 0, .int 0]) : ACell)]) := by
  refine e3 ?_
  refine s3_0 ?_
  refine s3_1 rfl ?_
  exact s3_4 ⟨rfl, rfl⟩
theorem own_r47 (a b c d e : Int32) : M6 ⟨0, 0, 0, 0⟩ [.int 8, .int 4] [(.inr (.int, [.int a, .int b, .int c, .int d, .int e]) : ACell), (.inl (0, [.ref 2, .int 4]) : ACell), (.inr (.int, [.int d, .int c, .int b, .int a, .int 0, .int 0, .int 0, .int 0]) : ACell), (.inr (.int, [.int 0, .int 0, .int 0, .int 0]) : ACell)] (Is (some (.int 4)) [(.inr (.int, [.int a, .int b, .int c, .int d, .int e]) : ACell), (.inl (0, [.ref 2, .int 4]) : ACell), (.inr (.int, [.int d, .int c, .int b, .int a, .int 0, .int 0, .int 0, .int 0]) : ACell), (.inr (.int, [.int 0, .int 0, .int 0, .int 0]) : ACell)]) := by
  refine e6 ?_
  refine s6_0 ?_
  refine s6_1 ?_
  refine s6_2 (fun _ => ?_) (fun h => absurd h (by decide))
  refine s6_9 ?_
  exact s6_10 ⟨rfl, rfl⟩
theorem own_r48 (a b c d e : Int32) : M5 ⟨1, 1, 4, 18⟩ [.ref 2, .int 4] [(.inr (.int, [.int a, .int b, .int c, .int d, .int e]) : ACell), (.inl (0, [.ref 2, .int 4]) : ACell), (.inr (.int, [.int d, .int c, .int b, .int a, .int 0, .int 0, .int 0, .int 0]) : ACell)] (Is (some (.ref 3)) [(.inr (.int, [.int a, .int b, .int c, .int d, .int e]) : ACell), (.inl (0, [.ref 2, .int 4]) : ACell), (.inr (.int, [.int d, .int c, .int b, .int a, .int 0, .int 0, .int 0, .int 0]) : ACell), (.inr (.int, [.int d, .int c, .int b, .int a]) : ACell)]) := by
  refine e5 ?_
  refine s5_0 ?_
  refine s5_1 ?_
  refine s5_2k 8 rfl rfl ?_
  refine s5_3 (fun _ => ?_) (fun h => absurd h (by decide))
  refine s5_14 ?_
  refine s5_15 3 4 (by decide) rfl rfl ?_
  refine s5_17 rfl ?_
  refine s5_18 ?_
  refine s5_19 ?_
  refine s5_20 ?_
  refine s5_21 ?_
  refine s5_22 ?_
  refine s5_23k 8 rfl rfl ?_
  refine s5_24 ?_
  refine s5_25 (own_r47 a b c d e) rfl ?_
  refine s5_28 4 rfl rfl (by decide) rfl rfl rfl ?_
  refine s5_31 ?_
  exact s5_32 ⟨rfl, rfl⟩
theorem own_r49 (a b c d e : Int32) : M4 ⟨2, 1, 4, 32⟩ [.ref 1] [(.inr (.int, [.int a, .int b, .int c, .int d, .int e]) : ACell), (.inl (0, [.ref 2, .int 4]) : ACell), (.inr (.int, [.int d, .int c, .int b, .int a, .int 0, .int 0, .int 0, .int 0]) : ACell)] (Is (some (.ref 3)) [(.inr (.int, [.int a, .int b, .int c, .int d, .int e]) : ACell), (.inl (0, [.ref 2, .int 4]) : ACell), (.inr (.int, [.int d, .int c, .int b, .int a, .int 0, .int 0, .int 0, .int 0]) : ACell), (.inr (.int, [.int d, .int c, .int b, .int a]) : ACell)]) := by
  refine e4 ?_
  refine s4_0 ?_
  refine s4_1 rfl ?_
  refine s4_4 ?_
  refine s4_5 rfl ?_
  refine s4_8 (own_r48 a b c d e) rfl ?_
  exact s4_11 ⟨rfl, rfl⟩
theorem own_r50 (a b c d e : Int32) : M7 ⟨0, 0, 0, 0⟩ [.ref 3, .ref 0, .int 4, .int 0] [(.inr (.int, [.int a, .int b, .int c, .int d, .int e]) : ACell), (.inl (0, [.ref 2, .int 4]) : ACell), (.inr (.int, [.int d, .int c, .int b, .int a, .int 0, .int 0, .int 0, .int 0]) : ACell), (.inr (.int, [.int d, .int c, .int b, .int a]) : ACell)] (Is (some (.int 1)) [(.inr (.int, [.int a, .int b, .int c, .int d, .int e]) : ACell), (.inl (0, [.ref 2, .int 4]) : ACell), (.inr (.int, [.int d, .int c, .int b, .int a, .int 0, .int 0, .int 0, .int 0]) : ACell), (.inr (.int, [.int d, .int c, .int b, .int a]) : ACell)]) := by
  refine e7 ?_
  refine s7_0 ?_
  refine s7_1 ?_
  refine s7_2 (fun _ => ?_) (fun h => absurd h (by decide))
  refine s7_7 ?_
  refine s7_8 ?_
  refine s7_9 0 rfl (by decide) rfl ?_
  refine s7_10 ?_
  refine s7_11 ?_
  refine s7_12 ?_
  refine s7_13 ?_
  refine s7_14 ?_
  refine s7_15 ?_
  refine s7_16 3 rfl (by decide) rfl ?_
  refine s7_17 (fun h => absurd rfl h) (fun _ => ?_)
  refine s7_20 ?_
  refine s7_21 ?_
  exact s7_25 ⟨rfl, rfl⟩
theorem own_r51 (a b c d e : Int32) : M7 ⟨0, 0, 0, 0⟩ [.ref 3, .ref 0, .int 4, .int 1] [(.inr (.int, [.int a, .int b, .int c, .int d, .int e]) : ACell), (.inl (0, [.ref 2, .int 4]) : ACell), (.inr (.int, [.int d, .int c, .int b, .int a, .int 0, .int 0, .int 0, .int 0]) : ACell), (.inr (.int, [.int d, .int c, .int b, .int a]) : ACell)] (Is (some (.int 1)) [(.inr (.int, [.int a, .int b, .int c, .int d, .int e]) : ACell), (.inl (0, [.ref 2, .int 4]) : ACell), (.inr (.int, [.int d, .int c, .int b, .int a, .int 0, .int 0, .int 0, .int 0]) : ACell), (.inr (.int, [.int d, .int c, .int b, .int a]) : ACell)]) := by
  refine e7 ?_
  refine s7_0 ?_
  refine s7_1 ?_
  refine s7_2 (fun _ => ?_) (fun h => absurd h (by decide))
  refine s7_7 ?_
  refine s7_8 ?_
  refine s7_9 1 rfl (by decide) rfl ?_
  refine s7_10 ?_
  refine s7_11 ?_
  refine s7_12 ?_
  refine s7_13 ?_
  refine s7_14 ?_
  refine s7_15 ?_
  refine s7_16 2 rfl (by decide) rfl ?_
  refine s7_17 (fun h => absurd rfl h) (fun _ => ?_)
  refine s7_20 ?_
  refine s7_21 ?_
  exact s7_25 ⟨rfl, rfl⟩
theorem own_r52 (a b c d e : Int32) : M7 ⟨0, 0, 0, 0⟩ [.ref 3, .ref 0, .int 4, .int 2] [(.inr (.int, [.int a, .int b, .int c, .int d, .int e]) : ACell), (.inl (0, [.ref 2, .int 4]) : ACell), (.inr (.int, [.int d, .int c, .int b, .int a, .int 0, .int 0, .int 0, .int 0]) : ACell), (.inr (.int, [.int d, .int c, .int b, .int a]) : ACell)] (Is (some (.int 1)) [(.inr (.int, [.int a, .int b, .int c, .int d, .int e]) : ACell), (.inl (0, [.ref 2, .int 4]) : ACell), (.inr (.int, [.int d, .int c, .int b, .int a, .int 0, .int 0, .int 0, .int 0]) : ACell), (.inr (.int, [.int d, .int c, .int b, .int a]) : ACell)]) := by
  refine e7 ?_
  refine s7_0 ?_
  refine s7_1 ?_
  refine s7_2 (fun _ => ?_) (fun h => absurd h (by decide))
  refine s7_7 ?_
  refine s7_8 ?_
  refine s7_9 2 rfl (by decide) rfl ?_
  refine s7_10 ?_
  refine s7_11 ?_
  refine s7_12 ?_
  refine s7_13 ?_
  refine s7_14 ?_
  refine s7_15 ?_
  refine s7_16 1 rfl (by decide) rfl ?_
  refine s7_17 (fun h => absurd rfl h) (fun _ => ?_)
  refine s7_20 ?_
  refine s7_21 ?_
  exact s7_25 ⟨rfl, rfl⟩
theorem own_r53 (a b c d e : Int32) : M7 ⟨0, 0, 0, 0⟩ [.ref 3, .ref 0, .int 4, .int 3] [(.inr (.int, [.int a, .int b, .int c, .int d, .int e]) : ACell), (.inl (0, [.ref 2, .int 4]) : ACell), (.inr (.int, [.int d, .int c, .int b, .int a, .int 0, .int 0, .int 0, .int 0]) : ACell), (.inr (.int, [.int d, .int c, .int b, .int a]) : ACell)] (Is (some (.int 1)) [(.inr (.int, [.int a, .int b, .int c, .int d, .int e]) : ACell), (.inl (0, [.ref 2, .int 4]) : ACell), (.inr (.int, [.int d, .int c, .int b, .int a, .int 0, .int 0, .int 0, .int 0]) : ACell), (.inr (.int, [.int d, .int c, .int b, .int a]) : ACell)]) := by
  refine e7 ?_
  refine s7_0 ?_
  refine s7_1 ?_
  refine s7_2 (fun _ => ?_) (fun h => absurd h (by decide))
  refine s7_7 ?_
  refine s7_8 ?_
  refine s7_9 3 rfl (by decide) rfl ?_
  refine s7_10 ?_
  refine s7_11 ?_
  refine s7_12 ?_
  refine s7_13 ?_
  refine s7_14 ?_
  refine s7_15 ?_
  refine s7_16 0 rfl (by decide) rfl ?_
  refine s7_17 (fun h => absurd rfl h) (fun _ => ?_)
  refine s7_20 ?_
  refine s7_21 ?_
  exact s7_25 ⟨rfl, rfl⟩
theorem own_r54 (a b c d e : Int32) : M7 ⟨0, 0, 0, 0⟩ [.ref 3, .ref 0, .int 4, .int 4] [(.inr (.int, [.int a, .int b, .int c, .int d, .int e]) : ACell), (.inl (0, [.ref 2, .int 4]) : ACell), (.inr (.int, [.int d, .int c, .int b, .int a, .int 0, .int 0, .int 0, .int 0]) : ACell), (.inr (.int, [.int d, .int c, .int b, .int a]) : ACell)] (Is (some (.int 1)) [(.inr (.int, [.int a, .int b, .int c, .int d, .int e]) : ACell), (.inl (0, [.ref 2, .int 4]) : ACell), (.inr (.int, [.int d, .int c, .int b, .int a, .int 0, .int 0, .int 0, .int 0]) : ACell), (.inr (.int, [.int d, .int c, .int b, .int a]) : ACell)]) := by
  refine e7 ?_
  refine s7_0 ?_
  refine s7_1 ?_
  refine s7_2 (fun h => absurd h (by decide)) (fun _ => ?_)
  refine s7_5 ?_
  exact s7_6 ⟨rfl, rfl⟩
theorem own_r55 (a b c d e : Int32) : M8 ⟨0, 0, 0, 0⟩ [.ref 1, .int e] [(.inr (.int, [.int a, .int b, .int c, .int d, .int e]) : ACell), (.inl (0, [.ref 2, .int 4]) : ACell), (.inr (.int, [.int a, .int b, .int c, .int d, .int 0, .int 0, .int 0, .int 0]) : ACell)] (Is none [(.inr (.int, [.int a, .int b, .int c, .int d, .int e]) : ACell), (.inl (0, [.ref 2, .int 5]) : ACell), (.inr (.int, [.int a, .int b, .int c, .int d, .int e, .int 0, .int 0, .int 0]) : ACell)]) := by
  refine e8 ?_
  refine s8_0 ?_
  refine s8_1 rfl ?_
  refine s8_4 ?_
  refine s8_5 rfl ?_
  refine s8_8k 8 rfl rfl ?_
  refine s8_9 (fun _ => ?_) (fun h => absurd h (by decide))
  refine s8_29 ?_
  refine s8_30 rfl ?_
  refine s8_33 ?_
  refine s8_34 rfl ?_
  refine s8_35 rfl ?_
  refine s8_38 rfl rfl ?_
  refine s8_39 ?_
  refine s8_40 ?_
  refine s8_41 rfl ?_
  refine s8_44 ?_
  refine s8_45 4 rfl (by decide) rfl ?_
  exact s8_46 ⟨rfl, rfl⟩
theorem own_r56 (a b c d e : Int32) : M2 ⟨0, 0, 0, 0⟩ [.ref 1] [(.inr (.int, [.int a, .int b, .int c, .int d, .int e]) : ACell), (.inl (0, [.ref 2, .int 5]) : ACell), (.inr (.int, [.int a, .int b, .int c, .int d, .int e, .int 0, .int 0, .int 0]) : ACell)] (Is none [(.inr (.int, [.int a, .int b, .int c, .int d, .int e]) : ACell), (.inl (0, [.ref 2, .int 5]) : ACell), (.inr (.int, [.int e, .int d, .int c, .int b, .int a, .int 0, .int 0, .int 0]) : ACell)]) := by
  refine e2 ?_
  refine s2_0 ?_
  refine s2_1 rfl ?_
  refine s2_2 ?_
  refine s2_3 rfl ?_
  refine s2_6 ?_
  refine s2_7 ?_
  refine s2_8 rfl ?_
  refine s2_9 ?_
  refine s2_10 ?_
  refine s2_11 (fun h => absurd h (by decide)) (fun _ => ?_)
  refine s2_14 ?_
  refine s2_15 rfl ?_
  refine s2_18 ?_
  refine s2_19 0 rfl (by decide) rfl ?_
  refine s2_20 rfl ?_
  refine s2_21 ?_
  refine s2_22 rfl ?_
  refine s2_25 ?_
  refine s2_26 ?_
  refine s2_27 rfl ?_
  refine s2_30 ?_
  refine s2_31 4 rfl (by decide) rfl ?_
  refine s2_32 0 rfl (by decide) rfl ?_
  refine s2_33 ?_
  refine s2_34 rfl ?_
  refine s2_37 ?_
  refine s2_38 ?_
  refine s2_39 4 rfl (by decide) rfl ?_
  refine s2_40 ?_
  refine s2_43 ?_
  refine s2_46 ?_
  refine s2_9 ?_
  refine s2_10 ?_
  refine s2_11 (fun h => absurd h (by decide)) (fun _ => ?_)
  refine s2_14 ?_
  refine s2_15 rfl ?_
  refine s2_18 ?_
  refine s2_19 1 rfl (by decide) rfl ?_
  refine s2_20 rfl ?_
  refine s2_21 ?_
  refine s2_22 rfl ?_
  refine s2_25 ?_
  refine s2_26 ?_
  refine s2_27 rfl ?_
  refine s2_30 ?_
  refine s2_31 3 rfl (by decide) rfl ?_
  refine s2_32 1 rfl (by decide) rfl ?_
  refine s2_33 ?_
  refine s2_34 rfl ?_
  refine s2_37 ?_
  refine s2_38 ?_
  refine s2_39 3 rfl (by decide) rfl ?_
  refine s2_40 ?_
  refine s2_43 ?_
  refine s2_46 ?_
  refine s2_9 ?_
  refine s2_10 ?_
  refine s2_11 (fun _ => ?_) (fun h => absurd h (by decide))
  exact s2_49 ⟨rfl, rfl⟩
theorem own_r57 (a b c d e : Int32) : M3 ⟨0, 0, 0, 0⟩ [.ref 1] [(.inr (.int, [.int a, .int b, .int c, .int d, .int e]) : ACell), (.inl (0, [.ref 2, .int 5]) : ACell), (.inr (.int, [.int e, .int d, .int c, .int b, .int a, .int 0, .int 0, .int 0]) : ACell)] (Is (some (.int 5)) [(.inr (.int, [.int a, .int b, .int c, .int d, .int e]) : ACell), (.inl (0, [.ref 2, .int 5]) : ACell), (.inr (.int, [.int e, .int d, .int c, .int b, .int a, .int 0, .int 0, .int 0]) : ACell)]) := by
  refine e3 ?_
  refine s3_0 ?_
  refine s3_1 rfl ?_
  exact s3_4 ⟨rfl, rfl⟩
theorem own_r58 (a b c d e : Int32) : M6 ⟨0, 0, 0, 0⟩ [.int 8, .int 5] [(.inr (.int, [.int a, .int b, .int c, .int d, .int e]) : ACell), (.inl (0, [.ref 2, .int 5]) : ACell), (.inr (.int, [.int e, .int d, .int c, .int b, .int a, .int 0, .int 0, .int 0]) : ACell), (.inr (.int, [.int 0, .int 0, .int 0, .int 0, .int 0]) : ACell)] (Is (some (.int 5)) [(.inr (.int, [.int a, .int b, .int c, .int d, .int e]) : ACell), (.inl (0, [.ref 2, .int 5]) : ACell), (.inr (.int, [.int e, .int d, .int c, .int b, .int a, .int 0, .int 0, .int 0]) : ACell), (.inr (.int, [.int 0, .int 0, .int 0, .int 0, .int 0]) : ACell)]) := by
  refine e6 ?_
  refine s6_0 ?_
  refine s6_1 ?_
  refine s6_2 (fun _ => ?_) (fun h => absurd h (by decide))
  refine s6_9 ?_
  exact s6_10 ⟨rfl, rfl⟩
theorem own_r59 (a b c d e : Int32) : M5 ⟨1, 1, 5, 18⟩ [.ref 2, .int 5] [(.inr (.int, [.int a, .int b, .int c, .int d, .int e]) : ACell), (.inl (0, [.ref 2, .int 5]) : ACell), (.inr (.int, [.int e, .int d, .int c, .int b, .int a, .int 0, .int 0, .int 0]) : ACell)] (Is (some (.ref 3)) [(.inr (.int, [.int a, .int b, .int c, .int d, .int e]) : ACell), (.inl (0, [.ref 2, .int 5]) : ACell), (.inr (.int, [.int e, .int d, .int c, .int b, .int a, .int 0, .int 0, .int 0]) : ACell), (.inr (.int, [.int e, .int d, .int c, .int b, .int a]) : ACell)]) := by
  refine e5 ?_
  refine s5_0 ?_
  refine s5_1 ?_
  refine s5_2k 8 rfl rfl ?_
  refine s5_3 (fun _ => ?_) (fun h => absurd h (by decide))
  refine s5_14 ?_
  refine s5_15 3 5 (by decide) rfl rfl ?_
  refine s5_17 rfl ?_
  refine s5_18 ?_
  refine s5_19 ?_
  refine s5_20 ?_
  refine s5_21 ?_
  refine s5_22 ?_
  refine s5_23k 8 rfl rfl ?_
  refine s5_24 ?_
  refine s5_25 (own_r58 a b c d e) rfl ?_
  refine s5_28 5 rfl rfl (by decide) rfl rfl rfl ?_
  refine s5_31 ?_
  exact s5_32 ⟨rfl, rfl⟩
theorem own_r60 (a b c d e : Int32) : M4 ⟨2, 1, 5, 32⟩ [.ref 1] [(.inr (.int, [.int a, .int b, .int c, .int d, .int e]) : ACell), (.inl (0, [.ref 2, .int 5]) : ACell), (.inr (.int, [.int e, .int d, .int c, .int b, .int a, .int 0, .int 0, .int 0]) : ACell)] (Is (some (.ref 3)) [(.inr (.int, [.int a, .int b, .int c, .int d, .int e]) : ACell), (.inl (0, [.ref 2, .int 5]) : ACell), (.inr (.int, [.int e, .int d, .int c, .int b, .int a, .int 0, .int 0, .int 0]) : ACell), (.inr (.int, [.int e, .int d, .int c, .int b, .int a]) : ACell)]) := by
  refine e4 ?_
  refine s4_0 ?_
  refine s4_1 rfl ?_
  refine s4_4 ?_
  refine s4_5 rfl ?_
  refine s4_8 (own_r59 a b c d e) rfl ?_
  exact s4_11 ⟨rfl, rfl⟩
theorem own_r61 (a b c d e : Int32) : M7 ⟨0, 0, 0, 0⟩ [.ref 3, .ref 0, .int 5, .int 0] [(.inr (.int, [.int a, .int b, .int c, .int d, .int e]) : ACell), (.inl (0, [.ref 2, .int 5]) : ACell), (.inr (.int, [.int e, .int d, .int c, .int b, .int a, .int 0, .int 0, .int 0]) : ACell), (.inr (.int, [.int e, .int d, .int c, .int b, .int a]) : ACell)] (Is (some (.int 1)) [(.inr (.int, [.int a, .int b, .int c, .int d, .int e]) : ACell), (.inl (0, [.ref 2, .int 5]) : ACell), (.inr (.int, [.int e, .int d, .int c, .int b, .int a, .int 0, .int 0, .int 0]) : ACell), (.inr (.int, [.int e, .int d, .int c, .int b, .int a]) : ACell)]) := by
  refine e7 ?_
  refine s7_0 ?_
  refine s7_1 ?_
  refine s7_2 (fun _ => ?_) (fun h => absurd h (by decide))
  refine s7_7 ?_
  refine s7_8 ?_
  refine s7_9 0 rfl (by decide) rfl ?_
  refine s7_10 ?_
  refine s7_11 ?_
  refine s7_12 ?_
  refine s7_13 ?_
  refine s7_14 ?_
  refine s7_15 ?_
  refine s7_16 4 rfl (by decide) rfl ?_
  refine s7_17 (fun h => absurd rfl h) (fun _ => ?_)
  refine s7_20 ?_
  refine s7_21 ?_
  exact s7_25 ⟨rfl, rfl⟩
theorem own_r62 (a b c d e : Int32) : M7 ⟨0, 0, 0, 0⟩ [.ref 3, .ref 0, .int 5, .int 1] [(.inr (.int, [.int a, .int b, .int c, .int d, .int e]) : ACell), (.inl (0, [.ref 2, .int 5]) : ACell), (.inr (.int, [.int e, .int d, .int c, .int b, .int a, .int 0, .int 0, .int 0]) : ACell), (.inr (.int, [.int e, .int d, .int c, .int b, .int a]) : ACell)] (Is (some (.int 1)) [(.inr (.int, [.int a, .int b, .int c, .int d, .int e]) : ACell), (.inl (0, [.ref 2, .int 5]) : ACell), (.inr (.int, [.int e, .int d, .int c, .int b, .int a, .int 0, .int 0, .int 0]) : ACell), (.inr (.int, [.int e, .int d, .int c, .int b, .int a]) : ACell)]) := by
  refine e7 ?_
  refine s7_0 ?_
  refine s7_1 ?_
  refine s7_2 (fun _ => ?_) (fun h => absurd h (by decide))
  refine s7_7 ?_
  refine s7_8 ?_
  refine s7_9 1 rfl (by decide) rfl ?_
  refine s7_10 ?_
  refine s7_11 ?_
  refine s7_12 ?_
  refine s7_13 ?_
  refine s7_14 ?_
  refine s7_15 ?_
  refine s7_16 3 rfl (by decide) rfl ?_
  refine s7_17 (fun h => absurd rfl h) (fun _ => ?_)
  refine s7_20 ?_
  refine s7_21 ?_
  exact s7_25 ⟨rfl, rfl⟩
theorem own_r63 (a b c d e : Int32) : M7 ⟨0, 0, 0, 0⟩ [.ref 3, .ref 0, .int 5, .int 2] [(.inr (.int, [.int a, .int b, .int c, .int d, .int e]) : ACell), (.inl (0, [.ref 2, .int 5]) : ACell), (.inr (.int, [.int e, .int d, .int c, .int b, .int a, .int 0, .int 0, .int 0]) : ACell), (.inr (.int, [.int e, .int d, .int c, .int b, .int a]) : ACell)] (Is (some (.int 1)) [(.inr (.int, [.int a, .int b, .int c, .int d, .int e]) : ACell), (.inl (0, [.ref 2, .int 5]) : ACell), (.inr (.int, [.int e, .int d, .int c, .int b, .int a, .int 0, .int 0, .int 0]) : ACell), (.inr (.int, [.int e, .int d, .int c, .int b, .int a]) : ACell)]) := by
  refine e7 ?_
  refine s7_0 ?_
  refine s7_1 ?_
  refine s7_2 (fun _ => ?_) (fun h => absurd h (by decide))
  refine s7_7 ?_
  refine s7_8 ?_
  refine s7_9 2 rfl (by decide) rfl ?_
  refine s7_10 ?_
  refine s7_11 ?_
  refine s7_12 ?_
  refine s7_13 ?_
  refine s7_14 ?_
  refine s7_15 ?_
  refine s7_16 2 rfl (by decide) rfl ?_
  refine s7_17 (fun h => absurd rfl h) (fun _ => ?_)
  refine s7_20 ?_
  refine s7_21 ?_
  exact s7_25 ⟨rfl, rfl⟩
theorem own_r64 (a b c d e : Int32) : M7 ⟨0, 0, 0, 0⟩ [.ref 3, .ref 0, .int 5, .int 3] [(.inr (.int, [.int a, .int b, .int c, .int d, .int e]) : ACell), (.inl (0, [.ref 2, .int 5]) : ACell), (.inr (.int, [.int e, .int d, .int c, .int b, .int a, .int 0, .int 0, .int 0]) : ACell), (.inr (.int, [.int e, .int d, .int c, .int b, .int a]) : ACell)] (Is (some (.int 1)) [(.inr (.int, [.int a, .int b, .int c, .int d, .int e]) : ACell), (.inl (0, [.ref 2, .int 5]) : ACell), (.inr (.int, [.int e, .int d, .int c, .int b, .int a, .int 0, .int 0, .int 0]) : ACell), (.inr (.int, [.int e, .int d, .int c, .int b, .int a]) : ACell)]) := by
  refine e7 ?_
  refine s7_0 ?_
  refine s7_1 ?_
  refine s7_2 (fun _ => ?_) (fun h => absurd h (by decide))
  refine s7_7 ?_
  refine s7_8 ?_
  refine s7_9 3 rfl (by decide) rfl ?_
  refine s7_10 ?_
  refine s7_11 ?_
  refine s7_12 ?_
  refine s7_13 ?_
  refine s7_14 ?_
  refine s7_15 ?_
  refine s7_16 1 rfl (by decide) rfl ?_
  refine s7_17 (fun h => absurd rfl h) (fun _ => ?_)
  refine s7_20 ?_
  refine s7_21 ?_
  exact s7_25 ⟨rfl, rfl⟩
theorem own_r65 (a b c d e : Int32) : M7 ⟨0, 0, 0, 0⟩ [.ref 3, .ref 0, .int 5, .int 4] [(.inr (.int, [.int a, .int b, .int c, .int d, .int e]) : ACell), (.inl (0, [.ref 2, .int 5]) : ACell), (.inr (.int, [.int e, .int d, .int c, .int b, .int a, .int 0, .int 0, .int 0]) : ACell), (.inr (.int, [.int e, .int d, .int c, .int b, .int a]) : ACell)] (Is (some (.int 1)) [(.inr (.int, [.int a, .int b, .int c, .int d, .int e]) : ACell), (.inl (0, [.ref 2, .int 5]) : ACell), (.inr (.int, [.int e, .int d, .int c, .int b, .int a, .int 0, .int 0, .int 0]) : ACell), (.inr (.int, [.int e, .int d, .int c, .int b, .int a]) : ACell)]) := by
  refine e7 ?_
  refine s7_0 ?_
  refine s7_1 ?_
  refine s7_2 (fun _ => ?_) (fun h => absurd h (by decide))
  refine s7_7 ?_
  refine s7_8 ?_
  refine s7_9 4 rfl (by decide) rfl ?_
  refine s7_10 ?_
  refine s7_11 ?_
  refine s7_12 ?_
  refine s7_13 ?_
  refine s7_14 ?_
  refine s7_15 ?_
  refine s7_16 0 rfl (by decide) rfl ?_
  refine s7_17 (fun h => absurd rfl h) (fun _ => ?_)
  refine s7_20 ?_
  refine s7_21 ?_
  exact s7_25 ⟨rfl, rfl⟩
set_option maxHeartbeats 4000000 in
theorem own_c0 (k a b c d e : Int32) : W0 room_1 9 [.val (.int k), .val (.int a), .val (.int b), .val (.int c), .val (.int d), .val (.int e), .val (.int 0), .unset, .unset, .unset] [] [] (fun r _ => r = some (.int 1)) := by
  refine s0_9 ?_
  refine s0_10 0 5 (by decide) rfl rfl ?_
  refine s0_12 rfl ?_
  refine s0_13 ?_
  refine s0_14 ?_
  refine s0_15 0 rfl (by decide) rfl ?_
  refine s0_16 rfl ?_
  refine s0_17 ?_
  refine s0_18 ?_
  refine s0_19 1 rfl (by decide) rfl ?_
  refine s0_20 rfl ?_
  refine s0_21 ?_
  refine s0_22 ?_
  refine s0_23 2 rfl (by decide) rfl ?_
  refine s0_24 rfl ?_
  refine s0_25 ?_
  refine s0_26 ?_
  refine s0_28 3 rfl (by decide) rfl ?_
  refine s0_29 rfl ?_
  refine s0_30 ?_
  refine s0_31 ?_
  refine s0_33 4 rfl (by decide) rfl ?_
  refine s0_34 rfl ?_
  refine s0_36 1 rfl rfl ?_
  refine s0_39 rfl ?_
  refine s0_40 (own_r0 a b c d e) rfl ?_
  refine s0_43 rfl ?_
  refine s0_45 ?_
  refine s0_47 (fun _ => ?_) (fun h => absurd h (by decide))
  refine s0_56 ?_
  refine s0_58 ?_
  refine s0_59 (fun _ => ?_) (fun h => absurd h (by decide))
  refine s0_68 ?_
  refine s0_70 ?_
  refine s0_71 (fun _ => ?_) (fun h => absurd h (by decide))
  refine s0_80 ?_
  refine s0_82 ?_
  refine s0_83 (fun _ => ?_) (fun h => absurd h (by decide))
  refine s0_93 ?_
  refine s0_95 ?_
  refine s0_96 (fun _ => ?_) (fun h => absurd h (by decide))
  refine s0_106 ?_
  refine s0_108 rfl (own_r1 a b c d e) rfl ?_
  refine s0_111 ?_
  refine s0_113 rfl (own_r2 a b c d e) rfl ?_
  refine s0_116 ?_
  refine s0_118 (fun _ => ?_) (fun h => absurd h (by decide))
  refine s0_123 ?_
  refine s0_125 rfl (own_r5 a b c d e) rfl ?_
  refine s0_128 rfl ?_
  refine s0_130 ?_
  refine s0_132k 0 rfl rfl ?_
  refine s0_133 ?_
  refine s0_135 (fun _ => ?_) (fun h => absurd h (by decide))
  refine s0_140 ?_
  refine s0_142 ?_
  refine s0_144 ?_
  refine s0_146 ?_
  refine s0_147 (own_r6 a b c d e) rfl ?_
  refine s0_150 (fun h => absurd h (by decide)) (fun _ => ?_)
  refine s0_153 ?_
  refine s0_155 ?_
  refine s0_157 ?_
  refine s0_159 ?_
  refine s0_160 (own_r7 a b c d e) rfl ?_
  refine s0_163 (fun h => absurd h (by decide)) (fun _ => ?_)
  refine s0_166 ?_
  refine s0_168 ?_
  refine s0_170 ?_
  refine s0_172 ?_
  refine s0_173 (own_r8 a b c d e) rfl ?_
  refine s0_176 (fun h => absurd h (by decide)) (fun _ => ?_)
  refine s0_179 ?_
  refine s0_181 ?_
  refine s0_183 ?_
  refine s0_185 ?_
  refine s0_186 (own_r9 a b c d e) rfl ?_
  refine s0_189 (fun h => absurd h (by decide)) (fun _ => ?_)
  refine s0_192 ?_
  refine s0_194 ?_
  refine s0_196 ?_
  refine s0_198 ?_
  refine s0_199 (own_r10 a b c d e) rfl ?_
  refine s0_202 (fun h => absurd h (by decide)) (fun _ => ?_)
  refine s0_205 ?_
  refine s0_206 ?_
  exact s0_210 rfl
set_option maxHeartbeats 4000000 in
theorem own_c1 (k a b c d e : Int32) : W0 room_1 9 [.val (.int k), .val (.int a), .val (.int b), .val (.int c), .val (.int d), .val (.int e), .val (.int 1), .unset, .unset, .unset] [] [] (fun r _ => r = some (.int 1)) := by
  refine s0_9 ?_
  refine s0_10 0 5 (by decide) rfl rfl ?_
  refine s0_12 rfl ?_
  refine s0_13 ?_
  refine s0_14 ?_
  refine s0_15 0 rfl (by decide) rfl ?_
  refine s0_16 rfl ?_
  refine s0_17 ?_
  refine s0_18 ?_
  refine s0_19 1 rfl (by decide) rfl ?_
  refine s0_20 rfl ?_
  refine s0_21 ?_
  refine s0_22 ?_
  refine s0_23 2 rfl (by decide) rfl ?_
  refine s0_24 rfl ?_
  refine s0_25 ?_
  refine s0_26 ?_
  refine s0_28 3 rfl (by decide) rfl ?_
  refine s0_29 rfl ?_
  refine s0_30 ?_
  refine s0_31 ?_
  refine s0_33 4 rfl (by decide) rfl ?_
  refine s0_34 rfl ?_
  refine s0_36 1 rfl rfl ?_
  refine s0_39 rfl ?_
  refine s0_40 (own_r0 a b c d e) rfl ?_
  refine s0_43 rfl ?_
  refine s0_45 ?_
  refine s0_47 (fun h => absurd h (by decide)) (fun _ => ?_)
  refine s0_50 ?_
  refine s0_52 ?_
  refine s0_53 rfl (own_r11 a b c d e) rfl ?_
  refine s0_56 ?_
  refine s0_58 ?_
  refine s0_59 (fun _ => ?_) (fun h => absurd h (by decide))
  refine s0_68 ?_
  refine s0_70 ?_
  refine s0_71 (fun _ => ?_) (fun h => absurd h (by decide))
  refine s0_80 ?_
  refine s0_82 ?_
  refine s0_83 (fun _ => ?_) (fun h => absurd h (by decide))
  refine s0_93 ?_
  refine s0_95 ?_
  refine s0_96 (fun _ => ?_) (fun h => absurd h (by decide))
  refine s0_106 ?_
  refine s0_108 rfl (own_r12 a b c d e) rfl ?_
  refine s0_111 ?_
  refine s0_113 rfl (own_r13 a b c d e) rfl ?_
  refine s0_116 ?_
  refine s0_118 (fun _ => ?_) (fun h => absurd h (by decide))
  refine s0_123 ?_
  refine s0_125 rfl (own_r16 a b c d e) rfl ?_
  refine s0_128 rfl ?_
  refine s0_130 ?_
  refine s0_132k 1 rfl rfl ?_
  refine s0_133 ?_
  refine s0_135 (fun _ => ?_) (fun h => absurd h (by decide))
  refine s0_140 ?_
  refine s0_142 ?_
  refine s0_144 ?_
  refine s0_146 ?_
  refine s0_147 (own_r17 a b c d e) rfl ?_
  refine s0_150 (fun h => absurd h (by decide)) (fun _ => ?_)
  refine s0_153 ?_
  refine s0_155 ?_
  refine s0_157 ?_
  refine s0_159 ?_
  refine s0_160 (own_r18 a b c d e) rfl ?_
  refine s0_163 (fun h => absurd h (by decide)) (fun _ => ?_)
  refine s0_166 ?_
  refine s0_168 ?_
  refine s0_170 ?_
  refine s0_172 ?_
  refine s0_173 (own_r19 a b c d e) rfl ?_
  refine s0_176 (fun h => absurd h (by decide)) (fun _ => ?_)
  refine s0_179 ?_
  refine s0_181 ?_
  refine s0_183 ?_
  refine s0_185 ?_
  refine s0_186 (own_r20 a b c d e) rfl ?_
  refine s0_189 (fun h => absurd h (by decide)) (fun _ => ?_)
  refine s0_192 ?_
  refine s0_194 ?_
  refine s0_196 ?_
  refine s0_198 ?_
  refine s0_199 (own_r21 a b c d e) rfl ?_
  refine s0_202 (fun h => absurd h (by decide)) (fun _ => ?_)
  refine s0_205 ?_
  refine s0_206 ?_
  exact s0_210 rfl
set_option maxHeartbeats 4000000 in
theorem own_c2 (k a b c d e : Int32) : W0 room_1 9 [.val (.int k), .val (.int a), .val (.int b), .val (.int c), .val (.int d), .val (.int e), .val (.int 2), .unset, .unset, .unset] [] [] (fun r _ => r = some (.int 1)) := by
  refine s0_9 ?_
  refine s0_10 0 5 (by decide) rfl rfl ?_
  refine s0_12 rfl ?_
  refine s0_13 ?_
  refine s0_14 ?_
  refine s0_15 0 rfl (by decide) rfl ?_
  refine s0_16 rfl ?_
  refine s0_17 ?_
  refine s0_18 ?_
  refine s0_19 1 rfl (by decide) rfl ?_
  refine s0_20 rfl ?_
  refine s0_21 ?_
  refine s0_22 ?_
  refine s0_23 2 rfl (by decide) rfl ?_
  refine s0_24 rfl ?_
  refine s0_25 ?_
  refine s0_26 ?_
  refine s0_28 3 rfl (by decide) rfl ?_
  refine s0_29 rfl ?_
  refine s0_30 ?_
  refine s0_31 ?_
  refine s0_33 4 rfl (by decide) rfl ?_
  refine s0_34 rfl ?_
  refine s0_36 1 rfl rfl ?_
  refine s0_39 rfl ?_
  refine s0_40 (own_r0 a b c d e) rfl ?_
  refine s0_43 rfl ?_
  refine s0_45 ?_
  refine s0_47 (fun h => absurd h (by decide)) (fun _ => ?_)
  refine s0_50 ?_
  refine s0_52 ?_
  refine s0_53 rfl (own_r11 a b c d e) rfl ?_
  refine s0_56 ?_
  refine s0_58 ?_
  refine s0_59 (fun h => absurd h (by decide)) (fun _ => ?_)
  refine s0_62 ?_
  refine s0_64 ?_
  refine s0_65 rfl (own_r22 a b c d e) rfl ?_
  refine s0_68 ?_
  refine s0_70 ?_
  refine s0_71 (fun _ => ?_) (fun h => absurd h (by decide))
  refine s0_80 ?_
  refine s0_82 ?_
  refine s0_83 (fun _ => ?_) (fun h => absurd h (by decide))
  refine s0_93 ?_
  refine s0_95 ?_
  refine s0_96 (fun _ => ?_) (fun h => absurd h (by decide))
  refine s0_106 ?_
  refine s0_108 rfl (own_r23 a b c d e) rfl ?_
  refine s0_111 ?_
  refine s0_113 rfl (own_r24 a b c d e) rfl ?_
  refine s0_116 ?_
  refine s0_118 (fun _ => ?_) (fun h => absurd h (by decide))
  refine s0_123 ?_
  refine s0_125 rfl (own_r27 a b c d e) rfl ?_
  refine s0_128 rfl ?_
  refine s0_130 ?_
  refine s0_132k 2 rfl rfl ?_
  refine s0_133 ?_
  refine s0_135 (fun _ => ?_) (fun h => absurd h (by decide))
  refine s0_140 ?_
  refine s0_142 ?_
  refine s0_144 ?_
  refine s0_146 ?_
  refine s0_147 (own_r28 a b c d e) rfl ?_
  refine s0_150 (fun h => absurd h (by decide)) (fun _ => ?_)
  refine s0_153 ?_
  refine s0_155 ?_
  refine s0_157 ?_
  refine s0_159 ?_
  refine s0_160 (own_r29 a b c d e) rfl ?_
  refine s0_163 (fun h => absurd h (by decide)) (fun _ => ?_)
  refine s0_166 ?_
  refine s0_168 ?_
  refine s0_170 ?_
  refine s0_172 ?_
  refine s0_173 (own_r30 a b c d e) rfl ?_
  refine s0_176 (fun h => absurd h (by decide)) (fun _ => ?_)
  refine s0_179 ?_
  refine s0_181 ?_
  refine s0_183 ?_
  refine s0_185 ?_
  refine s0_186 (own_r31 a b c d e) rfl ?_
  refine s0_189 (fun h => absurd h (by decide)) (fun _ => ?_)
  refine s0_192 ?_
  refine s0_194 ?_
  refine s0_196 ?_
  refine s0_198 ?_
  refine s0_199 (own_r32 a b c d e) rfl ?_
  refine s0_202 (fun h => absurd h (by decide)) (fun _ => ?_)
  refine s0_205 ?_
  refine s0_206 ?_
  exact s0_210 rfl
set_option maxHeartbeats 4000000 in
theorem own_c3 (k a b c d e : Int32) : W0 room_1 9 [.val (.int k), .val (.int a), .val (.int b), .val (.int c), .val (.int d), .val (.int e), .val (.int 3), .unset, .unset, .unset] [] [] (fun r _ => r = some (.int 1)) := by
  refine s0_9 ?_
  refine s0_10 0 5 (by decide) rfl rfl ?_
  refine s0_12 rfl ?_
  refine s0_13 ?_
  refine s0_14 ?_
  refine s0_15 0 rfl (by decide) rfl ?_
  refine s0_16 rfl ?_
  refine s0_17 ?_
  refine s0_18 ?_
  refine s0_19 1 rfl (by decide) rfl ?_
  refine s0_20 rfl ?_
  refine s0_21 ?_
  refine s0_22 ?_
  refine s0_23 2 rfl (by decide) rfl ?_
  refine s0_24 rfl ?_
  refine s0_25 ?_
  refine s0_26 ?_
  refine s0_28 3 rfl (by decide) rfl ?_
  refine s0_29 rfl ?_
  refine s0_30 ?_
  refine s0_31 ?_
  refine s0_33 4 rfl (by decide) rfl ?_
  refine s0_34 rfl ?_
  refine s0_36 1 rfl rfl ?_
  refine s0_39 rfl ?_
  refine s0_40 (own_r0 a b c d e) rfl ?_
  refine s0_43 rfl ?_
  refine s0_45 ?_
  refine s0_47 (fun h => absurd h (by decide)) (fun _ => ?_)
  refine s0_50 ?_
  refine s0_52 ?_
  refine s0_53 rfl (own_r11 a b c d e) rfl ?_
  refine s0_56 ?_
  refine s0_58 ?_
  refine s0_59 (fun h => absurd h (by decide)) (fun _ => ?_)
  refine s0_62 ?_
  refine s0_64 ?_
  refine s0_65 rfl (own_r22 a b c d e) rfl ?_
  refine s0_68 ?_
  refine s0_70 ?_
  refine s0_71 (fun h => absurd h (by decide)) (fun _ => ?_)
  refine s0_74 ?_
  refine s0_76 ?_
  refine s0_77 rfl (own_r33 a b c d e) rfl ?_
  refine s0_80 ?_
  refine s0_82 ?_
  refine s0_83 (fun _ => ?_) (fun h => absurd h (by decide))
  refine s0_93 ?_
  refine s0_95 ?_
  refine s0_96 (fun _ => ?_) (fun h => absurd h (by decide))
  refine s0_106 ?_
  refine s0_108 rfl (own_r34 a b c d e) rfl ?_
  refine s0_111 ?_
  refine s0_113 rfl (own_r35 a b c d e) rfl ?_
  refine s0_116 ?_
  refine s0_118 (fun _ => ?_) (fun h => absurd h (by decide))
  refine s0_123 ?_
  refine s0_125 rfl (own_r38 a b c d e) rfl ?_
  refine s0_128 rfl ?_
  refine s0_130 ?_
  refine s0_132k 3 rfl rfl ?_
  refine s0_133 ?_
  refine s0_135 (fun _ => ?_) (fun h => absurd h (by decide))
  refine s0_140 ?_
  refine s0_142 ?_
  refine s0_144 ?_
  refine s0_146 ?_
  refine s0_147 (own_r39 a b c d e) rfl ?_
  refine s0_150 (fun h => absurd h (by decide)) (fun _ => ?_)
  refine s0_153 ?_
  refine s0_155 ?_
  refine s0_157 ?_
  refine s0_159 ?_
  refine s0_160 (own_r40 a b c d e) rfl ?_
  refine s0_163 (fun h => absurd h (by decide)) (fun _ => ?_)
  refine s0_166 ?_
  refine s0_168 ?_
  refine s0_170 ?_
  refine s0_172 ?_
  refine s0_173 (own_r41 a b c d e) rfl ?_
  refine s0_176 (fun h => absurd h (by decide)) (fun _ => ?_)
  refine s0_179 ?_
  refine s0_181 ?_
  refine s0_183 ?_
  refine s0_185 ?_
  refine s0_186 (own_r42 a b c d e) rfl ?_
  refine s0_189 (fun h => absurd h (by decide)) (fun _ => ?_)
  refine s0_192 ?_
  refine s0_194 ?_
  refine s0_196 ?_
  refine s0_198 ?_
  refine s0_199 (own_r43 a b c d e) rfl ?_
  refine s0_202 (fun h => absurd h (by decide)) (fun _ => ?_)
  refine s0_205 ?_
  refine s0_206 ?_
  exact s0_210 rfl
set_option maxHeartbeats 4000000 in
theorem own_c4 (k a b c d e : Int32) : W0 room_1 9 [.val (.int k), .val (.int a), .val (.int b), .val (.int c), .val (.int d), .val (.int e), .val (.int 4), .unset, .unset, .unset] [] [] (fun r _ => r = some (.int 1)) := by
  refine s0_9 ?_
  refine s0_10 0 5 (by decide) rfl rfl ?_
  refine s0_12 rfl ?_
  refine s0_13 ?_
  refine s0_14 ?_
  refine s0_15 0 rfl (by decide) rfl ?_
  refine s0_16 rfl ?_
  refine s0_17 ?_
  refine s0_18 ?_
  refine s0_19 1 rfl (by decide) rfl ?_
  refine s0_20 rfl ?_
  refine s0_21 ?_
  refine s0_22 ?_
  refine s0_23 2 rfl (by decide) rfl ?_
  refine s0_24 rfl ?_
  refine s0_25 ?_
  refine s0_26 ?_
  refine s0_28 3 rfl (by decide) rfl ?_
  refine s0_29 rfl ?_
  refine s0_30 ?_
  refine s0_31 ?_
  refine s0_33 4 rfl (by decide) rfl ?_
  refine s0_34 rfl ?_
  refine s0_36 1 rfl rfl ?_
  refine s0_39 rfl ?_
  refine s0_40 (own_r0 a b c d e) rfl ?_
  refine s0_43 rfl ?_
  refine s0_45 ?_
  refine s0_47 (fun h => absurd h (by decide)) (fun _ => ?_)
  refine s0_50 ?_
  refine s0_52 ?_
  refine s0_53 rfl (own_r11 a b c d e) rfl ?_
  refine s0_56 ?_
  refine s0_58 ?_
  refine s0_59 (fun h => absurd h (by decide)) (fun _ => ?_)
  refine s0_62 ?_
  refine s0_64 ?_
  refine s0_65 rfl (own_r22 a b c d e) rfl ?_
  refine s0_68 ?_
  refine s0_70 ?_
  refine s0_71 (fun h => absurd h (by decide)) (fun _ => ?_)
  refine s0_74 ?_
  refine s0_76 ?_
  refine s0_77 rfl (own_r33 a b c d e) rfl ?_
  refine s0_80 ?_
  refine s0_82 ?_
  refine s0_83 (fun h => absurd h (by decide)) (fun _ => ?_)
  refine s0_86 ?_
  refine s0_88 ?_
  refine s0_90 rfl (own_r44 a b c d e) rfl ?_
  refine s0_93 ?_
  refine s0_95 ?_
  refine s0_96 (fun _ => ?_) (fun h => absurd h (by decide))
  refine s0_106 ?_
  refine s0_108 rfl (own_r45 a b c d e) rfl ?_
  refine s0_111 ?_
  refine s0_113 rfl (own_r46 a b c d e) rfl ?_
  refine s0_116 ?_
  refine s0_118 (fun _ => ?_) (fun h => absurd h (by decide))
  refine s0_123 ?_
  refine s0_125 rfl (own_r49 a b c d e) rfl ?_
  refine s0_128 rfl ?_
  refine s0_130 ?_
  refine s0_132k 4 rfl rfl ?_
  refine s0_133 ?_
  refine s0_135 (fun _ => ?_) (fun h => absurd h (by decide))
  refine s0_140 ?_
  refine s0_142 ?_
  refine s0_144 ?_
  refine s0_146 ?_
  refine s0_147 (own_r50 a b c d e) rfl ?_
  refine s0_150 (fun h => absurd h (by decide)) (fun _ => ?_)
  refine s0_153 ?_
  refine s0_155 ?_
  refine s0_157 ?_
  refine s0_159 ?_
  refine s0_160 (own_r51 a b c d e) rfl ?_
  refine s0_163 (fun h => absurd h (by decide)) (fun _ => ?_)
  refine s0_166 ?_
  refine s0_168 ?_
  refine s0_170 ?_
  refine s0_172 ?_
  refine s0_173 (own_r52 a b c d e) rfl ?_
  refine s0_176 (fun h => absurd h (by decide)) (fun _ => ?_)
  refine s0_179 ?_
  refine s0_181 ?_
  refine s0_183 ?_
  refine s0_185 ?_
  refine s0_186 (own_r53 a b c d e) rfl ?_
  refine s0_189 (fun h => absurd h (by decide)) (fun _ => ?_)
  refine s0_192 ?_
  refine s0_194 ?_
  refine s0_196 ?_
  refine s0_198 ?_
  refine s0_199 (own_r54 a b c d e) rfl ?_
  refine s0_202 (fun h => absurd h (by decide)) (fun _ => ?_)
  refine s0_205 ?_
  refine s0_206 ?_
  exact s0_210 rfl
set_option maxHeartbeats 4000000 in
theorem own_c5 (k a b c d e : Int32) : W0 room_1 9 [.val (.int k), .val (.int a), .val (.int b), .val (.int c), .val (.int d), .val (.int e), .val (.int 5), .unset, .unset, .unset] [] [] (fun r _ => r = some (.int 1)) := by
  refine s0_9 ?_
  refine s0_10 0 5 (by decide) rfl rfl ?_
  refine s0_12 rfl ?_
  refine s0_13 ?_
  refine s0_14 ?_
  refine s0_15 0 rfl (by decide) rfl ?_
  refine s0_16 rfl ?_
  refine s0_17 ?_
  refine s0_18 ?_
  refine s0_19 1 rfl (by decide) rfl ?_
  refine s0_20 rfl ?_
  refine s0_21 ?_
  refine s0_22 ?_
  refine s0_23 2 rfl (by decide) rfl ?_
  refine s0_24 rfl ?_
  refine s0_25 ?_
  refine s0_26 ?_
  refine s0_28 3 rfl (by decide) rfl ?_
  refine s0_29 rfl ?_
  refine s0_30 ?_
  refine s0_31 ?_
  refine s0_33 4 rfl (by decide) rfl ?_
  refine s0_34 rfl ?_
  refine s0_36 1 rfl rfl ?_
  refine s0_39 rfl ?_
  refine s0_40 (own_r0 a b c d e) rfl ?_
  refine s0_43 rfl ?_
  refine s0_45 ?_
  refine s0_47 (fun h => absurd h (by decide)) (fun _ => ?_)
  refine s0_50 ?_
  refine s0_52 ?_
  refine s0_53 rfl (own_r11 a b c d e) rfl ?_
  refine s0_56 ?_
  refine s0_58 ?_
  refine s0_59 (fun h => absurd h (by decide)) (fun _ => ?_)
  refine s0_62 ?_
  refine s0_64 ?_
  refine s0_65 rfl (own_r22 a b c d e) rfl ?_
  refine s0_68 ?_
  refine s0_70 ?_
  refine s0_71 (fun h => absurd h (by decide)) (fun _ => ?_)
  refine s0_74 ?_
  refine s0_76 ?_
  refine s0_77 rfl (own_r33 a b c d e) rfl ?_
  refine s0_80 ?_
  refine s0_82 ?_
  refine s0_83 (fun h => absurd h (by decide)) (fun _ => ?_)
  refine s0_86 ?_
  refine s0_88 ?_
  refine s0_90 rfl (own_r44 a b c d e) rfl ?_
  refine s0_93 ?_
  refine s0_95 ?_
  refine s0_96 (fun h => absurd h (by decide)) (fun _ => ?_)
  refine s0_99 ?_
  refine s0_101 ?_
  refine s0_103 rfl (own_r55 a b c d e) rfl ?_
  refine s0_106 ?_
  refine s0_108 rfl (own_r56 a b c d e) rfl ?_
  refine s0_111 ?_
  refine s0_113 rfl (own_r57 a b c d e) rfl ?_
  refine s0_116 ?_
  refine s0_118 (fun _ => ?_) (fun h => absurd h (by decide))
  refine s0_123 ?_
  refine s0_125 rfl (own_r60 a b c d e) rfl ?_
  refine s0_128 rfl ?_
  refine s0_130 ?_
  refine s0_132k 5 rfl rfl ?_
  refine s0_133 ?_
  refine s0_135 (fun _ => ?_) (fun h => absurd h (by decide))
  refine s0_140 ?_
  refine s0_142 ?_
  refine s0_144 ?_
  refine s0_146 ?_
  refine s0_147 (own_r61 a b c d e) rfl ?_
  refine s0_150 (fun h => absurd h (by decide)) (fun _ => ?_)
  refine s0_153 ?_
  refine s0_155 ?_
  refine s0_157 ?_
  refine s0_159 ?_
  refine s0_160 (own_r62 a b c d e) rfl ?_
  refine s0_163 (fun h => absurd h (by decide)) (fun _ => ?_)
  refine s0_166 ?_
  refine s0_168 ?_
  refine s0_170 ?_
  refine s0_172 ?_
  refine s0_173 (own_r63 a b c d e) rfl ?_
  refine s0_176 (fun h => absurd h (by decide)) (fun _ => ?_)
  refine s0_179 ?_
  refine s0_181 ?_
  refine s0_183 ?_
  refine s0_185 ?_
  refine s0_186 (own_r64 a b c d e) rfl ?_
  refine s0_189 (fun h => absurd h (by decide)) (fun _ => ?_)
  refine s0_192 ?_
  refine s0_194 ?_
  refine s0_196 ?_
  refine s0_198 ?_
  refine s0_199 (own_r65 a b c d e) rfl ?_
  refine s0_202 (fun h => absurd h (by decide)) (fun _ => ?_)
  refine s0_205 ?_
  refine s0_206 ?_
  exact s0_210 rfl
set_option maxHeartbeats 4000000 in
theorem law_ok (k a b c d e : Int32) : M0 room_1 [.int k, .int a, .int b, .int c, .int d, .int e] [] (fun r _ => r = some (.int 1)) := by
  refine e0 ?_
  refine s0_0 ?_
  refine s0_1 ?_
  refine s0_3 ?_
  refine s0_4 ?_
  refine s0_6 (by decide) ?_
  have hn := own_six k
  generalize (k &&& 7) % 6 = n at hn
  refine s0_7 rfl ?_
  rcases hn with rfl | rfl | rfl | rfl | rfl | rfl
  · exact own_c0 k a b c d e
  · exact own_c1 k a b c d e
  · exact own_c2 k a b c d e
  · exact own_c3 k a b c d e
  · exact own_c4 k a b c d e
  · exact own_c5 k a b c d e
set_option maxRecDepth 65536 in
set_option maxHeartbeats 4000000 in
theorem comes_1 {Post : Tables → Env → Array Value → State → Outcome → State → Prop} (hpost : ∀ tb e args s v u, (limb_1_1.after args s (.returned v) u = true ∧ limb_1_2.after args s (.returned v) u = true ∧ True) → FrameEnd s (.returned v) u (Jvm.fieldLocs frame_1_writes args s ++ Jvm.arrayLocs frame_1_arrays args s ++ Jvm.staticLocs frame_1_statics s) 16 128 → Post tb e args s (.returned v) u) :
    ArmFor flags0 classFile x code maxLocals ret World_1 tables_1 room_1 Calls_1 rest_1 Pre_1 Post := by
  intro l hfl _ _ p e ha hc hk s m args below hf hA hF happ hP
  obtain ⟨hcalls, hrest, hpre⟩ := hP
  obtain ⟨-, -, -, hnamed, -, -, -, hat⟩ := (Spec.applies_iff hf).mp happ
  obtain ⟨hg, hn⟩ := and_e (Cond.before_iff.mp (show (Jvm.Cond.and given_1 narrow_1).before args s = true from hpre))
  obtain ⟨hg0, hg⟩ := and_e hg
  obtain ⟨hk0, hg⟩ := and_e hg
  obtain ⟨hk1, hg⟩ := and_e hg
  obtain ⟨hk2, hg⟩ := and_e hg
  obtain ⟨hk3, hg⟩ := and_e hg
  obtain ⟨hk4, hg⟩ := and_e hg
  have hk5 := hg
  obtain ⟨w0, w1, w2, w3, w4, w5, rfl⟩ : ∃ w0 w1 w2 w3 w4 w5 : Value, args = #[w0, w1, w2, w3, w4, w5] := by
    have hs : args.size = 6 := by simpa [Cond.value, given_1] using hg0
    obtain ⟨L⟩ := args
    match L, hs with
    | [w0, w1, w2, w3, w4, w5], _ => exact ⟨w0, w1, w2, w3, w4, w5, rfl⟩
  have hw := fun d (hd : d ∈ tables_1) => atoms_spec (ws := Jvm.Cond.code x code maxLocals ret :: tables_1) hat d (List.mem_cons_of_mem _ hd)
  obtain ⟨i0, e0⟩ := is_v hk0
  obtain rfl : w0 = (.int i0) := Option.some.inj e0
  obtain ⟨i1, e1⟩ := is_v hk1
  obtain rfl : w1 = (.int i1) := Option.some.inj e1
  obtain ⟨i2, e2⟩ := is_v hk2
  obtain rfl : w2 = (.int i2) := Option.some.inj e2
  obtain ⟨i3, e3⟩ := is_v hk3
  obtain rfl : w3 = (.int i3) := Option.some.inj e3
  obtain ⟨i4, e4⟩ := is_v hk4
  obtain rfl : w4 = (.int i4) := Option.some.inj e4
  obtain ⟨i5, e5⟩ := is_v hk5
  obtain rfl : w5 = (.int i5) := Option.some.inj e5
  obtain ⟨n, o, h1, h2, h3, _, L, rfl, ⟨v', H', rfl, hR, rfl, N⟩, hq⟩ := law_ok i0 i1 i2 i3 i4 i5 s _ hw l s.heap tables_1 (Rel.start s KT) p e ha hc hk s m _ below hf ((Spec.applies_iff_loose hf).mp happ).1 ⟨rfl, State.Warmed39.refl s, rfl⟩ trivial
  refine ⟨n, _, h1, h2, h3, hpost _ _ _ _ _ _ ⟨Cond.after_iff.mpr rfl, Cond.after_iff.mpr (eq_i res_at (Term.int_eval (1)) rfl), trivial⟩ ⟨hq.1, hq.2.1, (hq.2.2.sift fun y hy => Or.inr (N y hy)).mono (by decide) (by decide)⟩⟩
theorem main_1_1 : Claimed_1_1 := comes_1 fun _ _ _ _ _ _ h hF => ⟨h.1, hF⟩
theorem main_1_2 : Claimed_1_2 := comes_1 fun _ _ _ _ _ _ h hF => ⟨h.2.1, hF⟩
end Jvm.Pilot.@@N@@
namespace Jvm.Pilot.@@N@@
open Jvm Jvm.ClassFile Sem Op Lib Jvm.Free Jvm.Stand Jvm.Pilot.@@N@@.Jvm.D
/-! MADE BY PROGRAM (witnessworld.py) out of the Statement's table words and the real class files: 12 classes; the members and pool entries that the words name. The judged class is class 1, her method 1. -/
namespace start1
open Jvm.ClassFile
def u (s : String) : CpInfo := .utf8 (stringToUtf16 s)
/-- a pool by its gaps: so many unusable entries, then the entry; so many at the end -/
def gap : Nat → List CpInfo → List CpInfo
  | 0, r => r
  | n + 1, r => .unusable :: gap n r
def poolList (es : List (Nat × CpInfo)) (last : Nat) : List CpInfo := es.foldr (fun e r => gap e.1 (e.2 :: r)) (gap last [])
def pool (es : List (Nat × CpInfo)) (last : Nat) : Array CpInfo := ⟨poolList es last⟩
def fileOf (pool : Array CpInfo) (this : Nat) (attrs : Array Attribute := #[]) (ms : Array MethodInfo := #[]) (fl : Nat := 33) (sup : Nat := 0) (ifs : Array Nat := #[]) (fds : Array FieldInfo := #[]) : ClassFile where
  minorVersion := 0
  majorVersion := 65
  constantPool := pool
  accessFlags := fl
  thisClass := this
  superClass := sup
  interfaces := ifs
  fields := fds
  methods := ms
  attributes := attrs
def plain (name : String) (sup : Option ClassId) : Class where
  name := name
  kind := .ordinary
  loader := none
  accessFlags := 33
  super := sup
  interfaces := #[]
  cf := none
  fields := #[]
  methods := #[]
  instanceTypes := #[]
  staticTypes := #[]
  resolved := #[]
  callSites := []
  init := .initialized
  statics := none
  mirror := none

def pool0 : Array CpInfo := pool [(5, u "<init>"), (0, u "()V"), (1, .class_ 10), (1, u "java/lang/Object")] 113

def k0c0 : Code := { maxStack := 0, maxLocals := 1, code := object_method_1_code, exceptionTable := #[], attributes := #[] }
def k0m0 : Method := { name := "<init>", desc := "()V", sig := { parameters := [], returnType := none }, accessFlags := 1, code := some k0c0 }
/-- java/lang/Object -/
def k0 : Class := { plain "java/lang/Object" none with
  accessFlags := 33
  interfaces := #[]
  cf := some (fileOf pool0 8 #[] #[{ accessFlags := 1, nameIndex := 5, descriptorIndex := 6, attributes := #[] }] 33 0 #[] #[])
  fields := #[]
  methods := #[k0m0]
  instanceTypes := #[]
  staticTypes := #[]
  resolved := Array.replicate 124 none
  statics := none }

def pool1 : Array CpInfo := pool [(2, .class_ 4), (0, .nameAndType 5 6), (0, u "java/lang/Object"), (0, u "<init>"), (0, u "()V"), (0, .class_ 8), (0, u "com/example/occur/occur/engines/NodeList"), (0, .methodref 7 3), (0, .methodref 7 11), (0, .nameAndType 12 13), (0, u "add"), (0, u "(I)V"), (0, .methodref 7 15), (0, .nameAndType 16 6), (0, u "reverse"), (0, .methodref 7 18), (0, .nameAndType 19 20), (0, u "size"), (0, u "()I"), (0, .methodref 7 22), (0, .nameAndType 23 24), (0, u "toArray"), (0, u "()[I"), (0, .methodref 26 27), (0, .class_ 28), (0, .nameAndType 29 30), (0, u "com/example/occur/occur/engines/NodeListReversePinLaw"), (0, u "at"), (0, u "([I[III)Z"), (2, u "law"), (0, u "(IIIIII)Z")] 5

def k1m0 : Method := { name := "<init>", desc := "()V", sig := { parameters := [], returnType := none }, accessFlags := 1, code := none }
def k1c1 : Code := { maxStack := 4, maxLocals := 10, code := code, exceptionTable := #[], attributes := #[] }
def k1m1 : Method := { name := "law", desc := "(IIIIII)Z", sig := { parameters := [.int, .int, .int, .int, .int, .int], returnType := some .boolean }, accessFlags := 9, code := some k1c1 }
def k1c2 : Code := { maxStack := 4, maxLocals := 4, code := method_3_code, exceptionTable := #[], attributes := #[] }
def k1m2 : Method := { name := "at", desc := "([I[III)Z", sig := { parameters := [(.array .int), (.array .int), .int, .int], returnType := some .boolean }, accessFlags := 10, code := some k1c2 }
/-- com/example/occur/occur/engines/NodeListReversePinLaw -/
def k1 : Class := { plain "com/example/occur/occur/engines/NodeListReversePinLaw" (some 0) with
  accessFlags := 49
  interfaces := #[]
  cf := some (fileOf pool1 26 #[] #[{ accessFlags := 1, nameIndex := 5, descriptorIndex := 6, attributes := #[] }, { accessFlags := 9, nameIndex := 33, descriptorIndex := 34, attributes := #[] }, { accessFlags := 10, nameIndex := 29, descriptorIndex := 30, attributes := #[] }] 49 2 #[] #[])
  fields := #[]
  methods := #[k1m0, k1m1, k1m2]
  instanceTypes := #[]
  staticTypes := #[]
  resolved := Array.replicate 40 none
  statics := none }

def pool2 : Array CpInfo := pool [(1, .methodref 2 3), (0, .class_ 4), (0, .nameAndType 5 6), (0, u "java/lang/Object"), (0, u "<init>"), (0, u "()V"), (0, .fieldref 8 9), (0, .class_ 10), (0, .nameAndType 11 12), (0, u "com/example/occur/occur/engines/NodeList"), (0, u "nodes"), (0, u "[I"), (0, .fieldref 8 14), (0, .nameAndType 15 16), (0, u "size"), (0, u "I"), (0, .methodref 18 19), (0, .class_ 20), (0, .nameAndType 21 22), (0, u "java/util/Arrays"), (0, u "copyOf"), (0, u "([II)[I"), (8, u "add"), (0, u "(I)V"), (2, u "()I"), (7, u "reverse"), (0, u "toArray"), (0, u "()[I")] 2

def k2c0 : Code := { maxStack := 2, maxLocals := 1, code := prog_20_method_1_code, exceptionTable := #[], attributes := #[] }
def k2m0 : Method := { name := "<init>", desc := "()V", sig := { parameters := [], returnType := none }, accessFlags := 0, code := some k2c0 }
def k2c1 : Code := { maxStack := 1, maxLocals := 1, code := prog_20_method_2_code, exceptionTable := #[], attributes := #[] }
def k2m1 : Method := { name := "size", desc := "()I", sig := { parameters := [], returnType := some .int }, accessFlags := 0, code := some k2c1 }
def k2c2 : Code := { maxStack := 5, maxLocals := 2, code := prog_20_method_5_code, exceptionTable := #[], attributes := #[] }
def k2m2 : Method := { name := "add", desc := "(I)V", sig := { parameters := [.int], returnType := none }, accessFlags := 0, code := some k2c2 }
def k2c3 : Code := { maxStack := 4, maxLocals := 4, code := prog_20_method_7_code, exceptionTable := #[], attributes := #[] }
def k2m3 : Method := { name := "reverse", desc := "()V", sig := { parameters := [], returnType := none }, accessFlags := 0, code := some k2c3 }
def k2c4 : Code := { maxStack := 2, maxLocals := 1, code := prog_20_method_8_code, exceptionTable := #[], attributes := #[] }
def k2m4 : Method := { name := "toArray", desc := "()[I", sig := { parameters := [], returnType := some (.array .int) }, accessFlags := 0, code := some k2c4 }
/-- com/example/occur/occur/engines/NodeList -/
def k2 : Class := { plain "com/example/occur/occur/engines/NodeList" (some 0) with
  accessFlags := 32
  interfaces := #[]
  cf := some (fileOf pool2 8 #[] #[{ accessFlags := 0, nameIndex := 5, descriptorIndex := 6, attributes := #[] }, { accessFlags := 0, nameIndex := 15, descriptorIndex := 35, attributes := #[] }, { accessFlags := 0, nameIndex := 31, descriptorIndex := 32, attributes := #[] }, { accessFlags := 0, nameIndex := 43, descriptorIndex := 6, attributes := #[] }, { accessFlags := 0, nameIndex := 44, descriptorIndex := 45, attributes := #[] }] 32 2 #[] #[{ accessFlags := 2, nameIndex := 11, descriptorIndex := 12, attributes := #[] }, { accessFlags := 2, nameIndex := 15, descriptorIndex := 16, attributes := #[] }])
  fields := #[{ name := "nodes", type := (.array .int), accessFlags := 2, slot := 0, constantValue := 0 }, { name := "size", type := .int, accessFlags := 2, slot := 1, constantValue := 0 }]
  methods := #[k2m0, k2m1, k2m2, k2m3, k2m4]
  instanceTypes := #[(.array .int), .int]
  staticTypes := #[]
  resolved := Array.replicate 48 none
  statics := none }

def pool3 : Array CpInfo := pool [(2, .class_ 4), (1, u "java/lang/Object"), (0, u "<init>"), (0, u "()V"), (7, .class_ 16), (1, u "java/util/Arrays"), (57, .class_ 76), (1, u "java/util/Arrays$NaturalOrder"), (36, .class_ 115), (1, u "java/util/Arrays$LegacyMergeSort"), (1, u "Z"), (32, .methodref 151 152), (0, .class_ 153), (0, .nameAndType 154 155), (0, u "java/lang/System"), (0, u "arraycopy"), (0, u "(Ljava/lang/Object;ILjava/lang/Object;II)V"), (146, u "copyOf"), (1, .methodref 305 306), (0, .class_ 307), (0, .nameAndType 308 309), (0, u "java/lang/Math"), (0, u "min"), (0, u "(II)I"), (65, .class_ 376), (0, u "java/util/Arrays$ArrayList"), (68, u "$assertionsDisabled"), (269, u "MIN_ARRAY_SORT_GRAN"), (0, u "I"), (2, u "INSERTIONSORT_THRESHOLD"), (151, u "([II)[I"), (103, .class_ 976), (0, u "java/util/Arrays$ArrayItr")] 52

def k3m0 : Method := { name := "<init>", desc := "()V", sig := { parameters := [], returnType := none }, accessFlags := 2, code := none }
def k3c1 : Code := { maxStack := 6, maxLocals := 3, code := jdk_65_method_123_code, exceptionTable := #[], attributes := #[] }
def k3m1 : Method := { name := "copyOf", desc := "([II)[I", sig := { parameters := [(.array .int), .int], returnType := some (.array .int) }, accessFlags := 9, code := some k3c1 }
/-- java/util/Arrays -/
def k3 : Class := { plain "java/util/Arrays" (some 0) with
  accessFlags := 49
  interfaces := #[]
  cf := some (fileOf pool3 14 #[.nestMembers #[975, 375, 113, 74]] #[{ accessFlags := 2, nameIndex := 5, descriptorIndex := 6, attributes := #[] }, { accessFlags := 9, nameIndex := 302, descriptorIndex := 871, attributes := #[] }] 49 2 #[] #[{ accessFlags := 26, nameIndex := 715, descriptorIndex := 716, attributes := #[] }, { accessFlags := 26, nameIndex := 719, descriptorIndex := 716, attributes := #[] }, { accessFlags := 4120, nameIndex := 445, descriptorIndex := 117, attributes := #[] }])
  fields := #[{ name := "MIN_ARRAY_SORT_GRAN", type := .int, accessFlags := 26, slot := 0, constantValue := 0 }, { name := "INSERTIONSORT_THRESHOLD", type := .int, accessFlags := 26, slot := 1, constantValue := 0 }, { name := "$assertionsDisabled", type := .boolean, accessFlags := 4120, slot := 2, constantValue := 0 }]
  methods := #[k3m0, k3m1]
  instanceTypes := #[]
  staticTypes := #[.int, .int, .boolean]
  resolved := Array.replicate 1029 none
  statics := none }

def pool4 : Array CpInfo := pool [(1, .class_ 2), (0, u "java/lang/Math"), (1, .class_ 6), (1, u "java/lang/Object"), (0, u "<init>"), (0, u "()V"), (89, .class_ 100), (1, u "java/lang/Math$RandomNumberGeneratorHolder"), (71, u "negativeZeroFloatBits"), (0, u "J"), (2, u "negativeZeroDoubleBits"), (24, u "min"), (43, u "$assertionsDisabled"), (0, u "Z"), (88, u "(II)I"), (2, u "twoToTheDoubleScaleDown"), (0, u "D"), (4, u "twoToTheDoubleScaleUp"), (9, u "E"), (3, u "PI"), (2, u "TAU"), (2, u "DEGREES_TO_RADIANS"), (0, u "RADIANS_TO_DEGREES")] 94

def k4m0 : Method := { name := "<init>", desc := "()V", sig := { parameters := [], returnType := none }, accessFlags := 2, code := none }
def k4c1 : Code := { maxStack := 2, maxLocals := 2, code := jdk_29_method_69_code, exceptionTable := #[], attributes := #[] }
def k4m1 : Method := { name := "min", desc := "(II)I", sig := { parameters := [.int, .int], returnType := some .int }, accessFlags := 9, code := some k4c1 }
/-- java/lang/Math -/
def k4 : Class := { plain "java/lang/Math" (some 0) with
  accessFlags := 49
  interfaces := #[]
  cf := some (fileOf pool4 1 #[.nestMembers #[98]] #[{ accessFlags := 2, nameIndex := 7, descriptorIndex := 8, attributes := #[] }, { accessFlags := 9, nameIndex := 201, descriptorIndex := 335, attributes := #[] }] 49 4 #[] #[{ accessFlags := 25, nameIndex := 354, descriptorIndex := 339, attributes := #[] }, { accessFlags := 25, nameIndex := 358, descriptorIndex := 339, attributes := #[] }, { accessFlags := 25, nameIndex := 361, descriptorIndex := 339, attributes := #[] }, { accessFlags := 26, nameIndex := 364, descriptorIndex := 339, attributes := #[] }, { accessFlags := 26, nameIndex := 365, descriptorIndex := 339, attributes := #[] }, { accessFlags := 26, nameIndex := 172, descriptorIndex := 173, attributes := #[] }, { accessFlags := 26, nameIndex := 176, descriptorIndex := 173, attributes := #[] }, { accessFlags := 8, nameIndex := 344, descriptorIndex := 339, attributes := #[] }, { accessFlags := 8, nameIndex := 338, descriptorIndex := 339, attributes := #[] }, { accessFlags := 4120, nameIndex := 245, descriptorIndex := 246, attributes := #[] }])
  fields := #[{ name := "E", type := .double, accessFlags := 25, slot := 0, constantValue := 0 }, { name := "PI", type := .double, accessFlags := 25, slot := 1, constantValue := 0 }, { name := "TAU", type := .double, accessFlags := 25, slot := 2, constantValue := 0 }, { name := "DEGREES_TO_RADIANS", type := .double, accessFlags := 26, slot := 3, constantValue := 0 }, { name := "RADIANS_TO_DEGREES", type := .double, accessFlags := 26, slot := 4, constantValue := 0 }, { name := "negativeZeroFloatBits", type := .long, accessFlags := 26, slot := 5, constantValue := 0 }, { name := "negativeZeroDoubleBits", type := .long, accessFlags := 26, slot := 6, constantValue := 0 }, { name := "twoToTheDoubleScaleUp", type := .double, accessFlags := 8, slot := 7, constantValue := 0 }, { name := "twoToTheDoubleScaleDown", type := .double, accessFlags := 8, slot := 8, constantValue := 0 }, { name := "$assertionsDisabled", type := .boolean, accessFlags := 4120, slot := 9, constantValue := 0 }]
  methods := #[k4m0, k4m1]
  instanceTypes := #[]
  staticTypes := #[.double, .double, .double, .double, .double, .long, .long, .double, .double, .boolean]
  resolved := Array.replicate 460 none
  statics := none }

def pool5 : Array CpInfo := pool [(2, .class_ 4), (1, u "java/lang/Object"), (0, u "<init>"), (0, u "()V"), (1, .class_ 10), (1, u "java/lang/System"), (0, u "allowSecurityManager"), (0, u "I"), (16, u "cons"), (0, u "Ljava/io/Console;"), (77, .class_ 110), (1, u "java/lang/System$CallersHolder"), (43, u "initialErrStream"), (0, u "Ljava/io/PrintStream;"), (19, u "security"), (0, u "Ljava/lang/SecurityManager;"), (31, .class_ 209), (0, u "java/lang/System$1"), (7, u "props"), (0, u "Ljava/util/Properties;"), (2, u "lineSeparator"), (0, u "Ljava/lang/String;"), (96, .class_ 321), (1, u "java/lang/System$LoggerFinder"), (5, .class_ 328), (0, u "java/lang/System$Logger"), (67, u "err"), (2, u "out"), (91, u "notSupportedJnuEncoding"), (15, u "in"), (17, u "initialIn"), (0, u "Ljava/io/InputStream;"), (35, u "bootLayer"), (0, u "Ljava/lang/ModuleLayer;"), (99, .class_ 664), (0, u "java/lang/System$2"), (9, u "NEVER"), (2, u "MAYBE"), (49, u "arraycopy"), (0, u "(Ljava/lang/Object;ILjava/lang/Object;II)V"), (72, .class_ 802), (0, u "java/lang/System$Logger$Level")] 31

def k5m0 : Method := { name := "<init>", desc := "()V", sig := { parameters := [], returnType := none }, accessFlags := 2, code := none }
def k5m1 : Method := { name := "arraycopy", desc := "(Ljava/lang/Object;ILjava/lang/Object;II)V", sig := { parameters := [(.object "java/lang/Object"), .int, (.object "java/lang/Object"), .int, .int], returnType := none }, accessFlags := 265, code := none }
/-- java/lang/System -/
def k5 : Class := { plain "java/lang/System" (some 0) with
  accessFlags := 49
  interfaces := #[]
  cf := some (fileOf pool5 8 #[.nestMembers #[319, 327, 801, 108, 663, 208]] #[{ accessFlags := 2, nameIndex := 5, descriptorIndex := 6, attributes := #[] }, { accessFlags := 265, nameIndex := 727, descriptorIndex := 728, attributes := #[] }] 49 2 #[] #[{ accessFlags := 25, nameIndex := 507, descriptorIndex := 526, attributes := #[] }, { accessFlags := 25, nameIndex := 399, descriptorIndex := 155, attributes := #[] }, { accessFlags := 25, nameIndex := 396, descriptorIndex := 155, attributes := #[] }, { accessFlags := 10, nameIndex := 525, descriptorIndex := 526, attributes := #[] }, { accessFlags := 26, nameIndex := 674, descriptorIndex := 12, attributes := #[] }, { accessFlags := 26, nameIndex := 677, descriptorIndex := 12, attributes := #[] }, { accessFlags := 10, nameIndex := 11, descriptorIndex := 12, attributes := #[] }, { accessFlags := 74, nameIndex := 175, descriptorIndex := 176, attributes := #[] }, { accessFlags := 10, nameIndex := 491, descriptorIndex := 222, attributes := #[] }, { accessFlags := 74, nameIndex := 29, descriptorIndex := 30, attributes := #[] }, { accessFlags := 74, nameIndex := 154, descriptorIndex := 155, attributes := #[] }, { accessFlags := 10, nameIndex := 217, descriptorIndex := 218, attributes := #[] }, { accessFlags := 10, nameIndex := 221, descriptorIndex := 222, attributes := #[] }, { accessFlags := 8, nameIndex := 562, descriptorIndex := 563, attributes := #[] }])
  fields := #[{ name := "in", type := (.object "java/io/InputStream"), accessFlags := 25, slot := 0, constantValue := 0 }, { name := "out", type := (.object "java/io/PrintStream"), accessFlags := 25, slot := 1, constantValue := 0 }, { name := "err", type := (.object "java/io/PrintStream"), accessFlags := 25, slot := 2, constantValue := 0 }, { name := "initialIn", type := (.object "java/io/InputStream"), accessFlags := 10, slot := 3, constantValue := 0 }, { name := "NEVER", type := .int, accessFlags := 26, slot := 4, constantValue := 0 }, { name := "MAYBE", type := .int, accessFlags := 26, slot := 5, constantValue := 0 }, { name := "allowSecurityManager", type := .int, accessFlags := 10, slot := 6, constantValue := 0 }, { name := "security", type := (.object "java/lang/SecurityManager"), accessFlags := 74, slot := 7, constantValue := 0 }, { name := "notSupportedJnuEncoding", type := (.object "java/lang/String"), accessFlags := 10, slot := 8, constantValue := 0 }, { name := "cons", type := (.object "java/io/Console"), accessFlags := 74, slot := 9, constantValue := 0 }, { name := "initialErrStream", type := (.object "java/io/PrintStream"), accessFlags := 74, slot := 10, constantValue := 0 }, { name := "props", type := (.object "java/util/Properties"), accessFlags := 10, slot := 11, constantValue := 0 }, { name := "lineSeparator", type := (.object "java/lang/String"), accessFlags := 10, slot := 12, constantValue := 0 }, { name := "bootLayer", type := (.object "java/lang/ModuleLayer"), accessFlags := 8, slot := 13, constantValue := 0 }]
  methods := #[k5m0, k5m1]
  instanceTypes := #[]
  staticTypes := #[(.object "java/io/InputStream"), (.object "java/io/PrintStream"), (.object "java/io/PrintStream"), (.object "java/io/InputStream"), .int, .int, .int, (.object "java/lang/SecurityManager"), (.object "java/lang/String"), (.object "java/io/Console"), (.object "java/io/PrintStream"), (.object "java/util/Properties"), (.object "java/lang/String"), (.object "java/lang/ModuleLayer")]
  resolved := Array.replicate 834 none
  statics := none }

def pool6 : Array CpInfo := pool [(1, u "java/lang/Cloneable"), (0, .class_ 1), (0, u "java/lang/Object"), (0, .class_ 3)] 3

/-- java/lang/Cloneable -/
def k6 : Class := { plain "java/lang/Cloneable" (some 0) with
  accessFlags := 1537
  interfaces := #[]
  cf := some (fileOf pool6 2 #[] #[] 1537 4 #[] #[])
  fields := #[]
  methods := #[]
  instanceTypes := #[]
  staticTypes := #[]
  resolved := Array.replicate 8 none
  statics := none }

def pool7 : Array CpInfo := pool [(1, u "java/io/Serializable"), (0, .class_ 1), (0, u "java/lang/Object"), (0, .class_ 3)] 3

/-- java/io/Serializable -/
def k7 : Class := { plain "java/io/Serializable" (some 0) with
  accessFlags := 1537
  interfaces := #[]
  cf := some (fileOf pool7 2 #[] #[] 1537 4 #[] #[])
  fields := #[]
  methods := #[]
  instanceTypes := #[]
  staticTypes := #[]
  resolved := Array.replicate 8 none
  statics := none }

/-- the primitive byte -/
def k8 : Class := { plain "byte" none with kind := .primitive 'B', accessFlags := 0x411 }
/-- [B -/
def k9 : Class := { plain "[B" (some 0) with kind := .array 8 .byte, interfaces := #[6, 7], accessFlags := 1041 }

/-- the primitive int -/
def k10 : Class := { plain "int" none with kind := .primitive 'I', accessFlags := 0x411 }
/-- [I -/
def k11 : Class := { plain "[I" (some 0) with kind := .array 10 .int, interfaces := #[6, 7], accessFlags := 1041 }

def heap : Heap := #[]
def classes : Array Class := #[k0, k1, k2, k3, k4, k5, k6, k7, k8, k9, k10, k11]
def interned : List (Array UInt16 × Addr) := []
def slotsUsed : Nat := 0
def theMethod : MethodId := ⟨1, 1⟩
def args0 : Array Value := #[.int 5, .int 3, .int 2, .int 1, .int 9, .int 7]
def aboutOver (below : List Frame) : State where
  vm := { classes := classes, interned := interned.toArray }
  heap := heap
  slotsUsed := slotsUsed
  threads := #[{ frames := .invoking theMethod args0 :: below }]
def below0 : List Frame := [.native { method := ⟨0, 0⟩, args := #[] }]
def about1 : State := aboutOver below0
def p0 : Program := .bare "" "" ""
def e0 : Env := launch0.env 0 0 0
theorem w_frames : about1.frames = Frame.invoking theMethod args0 :: below0 := rfl
set_option maxRecDepth 65536 in
theorem w_args : argsFit about1.vm theMethod args0 = true := by decide +kernel
set_option maxRecDepth 65536 in
theorem w_heap : heapFits about1 = true := by decide +kernel
set_option maxRecDepth 65536 in
theorem w_runnable : about1.curStatus? = some .runnable := by decide +kernel
set_option maxRecDepth 65536 in
theorem w_alone : about1.alone = true := by decide +kernel
set_option maxRecDepth 65536 in
theorem w_named : about1.methodNamed? x = some theMethod := by decide +kernel
set_option maxRecDepth 65536 in
theorem w_hears : about1.hears theMethod below0 = true := by decide +kernel
set_option maxRecDepth 65536 in
theorem w_ripe : about1.ripe theMethod args0 below0 = true := by decide +kernel
theorem w_running : about1.status = .running := rfl
set_option maxRecDepth 65536 in
theorem w_room : about1.hasRoom e0.platform room_1 = true :=
  launch0.hasRoom_least _ room_1 (by decide +kernel) (by decide +kernel) (by decide +kernel) (by decide +kernel) (by decide +kernel) (by decide +kernel)
theorem allAtoms_all (ts : List Jvm.Cond) (a : Array Jvm.Value) (st : Jvm.State) : (allAtoms ts).before a st = ts.all (fun c => c.before a st) := by
  induction ts with
  | nil => rfl
  | cons c t ih =>
    show (Jvm.Cond.and c (allAtoms t)).before a st = _
    rw [Jvm.Cond.before_and, ih, List.all_cons]
def words1 : List Jvm.Cond := Jvm.Cond.code x code maxLocals ret :: tables_1
/-- a 'code' word, met by the world's own term for the bytes: nothing is compared byte by byte -/
theorem code_word {y : MethodName} {bytes : ByteArray} {mx : Nat} {rt : Option FieldType} {a : Array Value} {s : State} {m : MethodId} {meth : Method} {c : Code} (h1 : s.methodNamed? y = some m) (h2 : s.vm.method? m = some meth) (h3 : meth.code = some c) (h4 : c.code = bytes)
    (h5 : (c.maxLocals == mx && c.exceptionTable.isEmpty && decide (c.maxStack ≤ mostOperands) && decide (meth.sig.returnType = rt) && !meth.locks && decide (parseMethodDescriptor y.desc = some meth.sig)) = true) : (Jvm.Cond.code y bytes mx rt).before a s = true := by
  simp only [Bool.and_eq_true, beq_iff_eq, Bool.not_eq_true', decide_eq_true_eq] at h5
  obtain ⟨⟨⟨⟨⟨g1, g2⟩, g3⟩, g4⟩, g5⟩, g6⟩ := h5
  simp [Cond.before, Cond.holds, Cond.value, h1, h2, h3, h4, g1, g2, g3, g4, g5, g6]
def isCode : Jvm.Cond → Bool
  | .code _ _ _ _ => true
  | _ => false
theorem all_split {L : List Jvm.Cond} {P : Jvm.Cond → Bool} (h1 : L.all (fun c => isCode c || P c) = true) (h2 : ∀ c ∈ L.filter isCode, P c = true) : L.all P = true := by
  refine List.all_eq_true.mpr fun c hc => ?_
  have h := List.all_eq_true.mp h1 c hc
  rcases Bool.eq_false_or_eq_true (isCode c) with hi | hi
  · exact h2 c (List.mem_filter.mpr ⟨hc, hi⟩)
  · simpa [hi] using h
set_option maxRecDepth 65536 in
theorem w_c0 : (Jvm.Cond.code x code maxLocals ret).before args0 about1 = true := code_word (m := ⟨1, 1⟩) (meth := k1m1) (c := k1c1) (by decide +kernel) rfl rfl rfl (by decide +kernel)
set_option maxRecDepth 65536 in
theorem w_c1 : (Jvm.Cond.code ({ cls := "com/example/occur/occur/engines/NodeList", name := "<init>", desc := "()V" } : Jvm.MethodName) prog_20_method_1_code (1 : Nat) (Option.none : Option Jvm.ClassFile.FieldType)).before args0 about1 = true := code_word (m := ⟨2, 0⟩) (meth := k2m0) (c := k2c0) (by decide +kernel) rfl rfl rfl (by decide +kernel)
set_option maxRecDepth 65536 in
theorem w_c2 : (Jvm.Cond.code ({ cls := "java/lang/Object", name := "<init>", desc := "()V" } : Jvm.MethodName) object_method_1_code (1 : Nat) (Option.none : Option Jvm.ClassFile.FieldType)).before args0 about1 = true := code_word (m := ⟨0, 0⟩) (meth := k0m0) (c := k0c0) (by decide +kernel) rfl rfl rfl (by decide +kernel)
set_option maxRecDepth 65536 in
theorem w_c3 : (Jvm.Cond.code ({ cls := "com/example/occur/occur/engines/NodeList", name := "reverse", desc := "()V" } : Jvm.MethodName) prog_20_method_7_code (4 : Nat) (Option.none : Option Jvm.ClassFile.FieldType)).before args0 about1 = true := code_word (m := ⟨2, 3⟩) (meth := k2m3) (c := k2c3) (by decide +kernel) rfl rfl rfl (by decide +kernel)
set_option maxRecDepth 65536 in
theorem w_c4 : (Jvm.Cond.code ({ cls := "com/example/occur/occur/engines/NodeList", name := "size", desc := "()I" } : Jvm.MethodName) prog_20_method_2_code (1 : Nat) (Option.some Jvm.ClassFile.FieldType.int)).before args0 about1 = true := code_word (m := ⟨2, 1⟩) (meth := k2m1) (c := k2c1) (by decide +kernel) rfl rfl rfl (by decide +kernel)
set_option maxRecDepth 65536 in
theorem w_c5 : (Jvm.Cond.code ({ cls := "com/example/occur/occur/engines/NodeList", name := "toArray", desc := "()[I" } : Jvm.MethodName) prog_20_method_8_code (1 : Nat) (Option.some (Jvm.ClassFile.FieldType.array Jvm.ClassFile.FieldType.int))).before args0 about1 = true := code_word (m := ⟨2, 4⟩) (meth := k2m4) (c := k2c4) (by decide +kernel) rfl rfl rfl (by decide +kernel)
set_option maxRecDepth 65536 in
theorem w_c6 : (Jvm.Cond.code ({ cls := "java/util/Arrays", name := "copyOf", desc := "([II)[I" } : Jvm.MethodName) jdk_65_method_123_code (3 : Nat) (Option.some (Jvm.ClassFile.FieldType.array Jvm.ClassFile.FieldType.int))).before args0 about1 = true := code_word (m := ⟨3, 1⟩) (meth := k3m1) (c := k3c1) (by decide +kernel) rfl rfl rfl (by decide +kernel)
set_option maxRecDepth 65536 in
theorem w_c7 : (Jvm.Cond.code ({ cls := "java/lang/Math", name := "min", desc := "(II)I" } : Jvm.MethodName) jdk_29_method_69_code (2 : Nat) (Option.some Jvm.ClassFile.FieldType.int)).before args0 about1 = true := code_word (m := ⟨4, 1⟩) (meth := k4m1) (c := k4c1) (by decide +kernel) rfl rfl rfl (by decide +kernel)
set_option maxRecDepth 65536 in
theorem w_c8 : (Jvm.Cond.code ({ cls := "com/example/occur/occur/engines/NodeListReversePinLaw", name := "at", desc := "([I[III)Z" } : Jvm.MethodName) method_3_code (4 : Nat) (Option.some Jvm.ClassFile.FieldType.boolean)).before args0 about1 = true := code_word (m := ⟨1, 2⟩) (meth := k1m2) (c := k1c2) (by decide +kernel) rfl rfl rfl (by decide +kernel)
set_option maxRecDepth 65536 in
theorem w_c9 : (Jvm.Cond.code ({ cls := "com/example/occur/occur/engines/NodeList", name := "add", desc := "(I)V" } : Jvm.MethodName) prog_20_method_5_code (2 : Nat) (Option.none : Option Jvm.ClassFile.FieldType)).before args0 about1 = true := code_word (m := ⟨2, 2⟩) (meth := k2m2) (c := k2c2) (by decide +kernel) rfl rfl rfl (by decide +kernel)
def codes1 : List Jvm.Cond := [Jvm.Cond.code x code maxLocals ret, Jvm.Cond.code ({ cls := "com/example/occur/occur/engines/NodeList", name := "<init>", desc := "()V" } : Jvm.MethodName) prog_20_method_1_code (1 : Nat) (Option.none : Option Jvm.ClassFile.FieldType), Jvm.Cond.code ({ cls := "java/lang/Object", name := "<init>", desc := "()V" } : Jvm.MethodName) object_method_1_code (1 : Nat) (Option.none : Option Jvm.ClassFile.FieldType), Jvm.Cond.code ({ cls := "com/example/occur/occur/engines/NodeList", name := "reverse", desc := "()V" } : Jvm.MethodName) prog_20_method_7_code (4 : Nat) (Option.none : Option Jvm.ClassFile.FieldType), Jvm.Cond.code ({ cls := "com/example/occur/occur/engines/NodeList", name := "size", desc := "()I" } : Jvm.MethodName) prog_20_method_2_code (1 : Nat) (Option.some Jvm.ClassFile.FieldType.int), Jvm.Cond.code ({ cls := "com/example/occur/occur/engines/NodeList", name := "toArray", desc := "()[I" } : Jvm.MethodName) prog_20_method_8_code (1 : Nat) (Option.some (Jvm.ClassFile.FieldType.array Jvm.ClassFile.FieldType.int)), Jvm.Cond.code ({ cls := "java/util/Arrays", name := "copyOf", desc := "([II)[I" } : Jvm.MethodName) jdk_65_method_123_code (3 : Nat) (Option.some (Jvm.ClassFile.FieldType.array Jvm.ClassFile.FieldType.int)), Jvm.Cond.code ({ cls := "java/lang/Math", name := "min", desc := "(II)I" } : Jvm.MethodName) jdk_29_method_69_code (2 : Nat) (Option.some Jvm.ClassFile.FieldType.int), Jvm.Cond.code ({ cls := "com/example/occur/occur/engines/NodeListReversePinLaw", name := "at", desc := "([I[III)Z" } : Jvm.MethodName) method_3_code (4 : Nat) (Option.some Jvm.ClassFile.FieldType.boolean), Jvm.Cond.code ({ cls := "com/example/occur/occur/engines/NodeList", name := "add", desc := "(I)V" } : Jvm.MethodName) prog_20_method_5_code (2 : Nat) (Option.none : Option Jvm.ClassFile.FieldType)]
set_option maxRecDepth 65536 in
theorem codes_eq : words1.filter isCode = codes1 := rfl
theorem w_codes : ∀ c ∈ words1.filter isCode, c.before args0 about1 = true := by
  rw [codes_eq]
  intro c hc
  simp only [codes1, List.mem_cons, List.not_mem_nil, or_false] at hc
  rcases hc with rfl | rfl | rfl | rfl | rfl | rfl | rfl | rfl | rfl | rfl
  · exact w_c0
  · exact w_c1
  · exact w_c2
  · exact w_c3
  · exact w_c4
  · exact w_c5
  · exact w_c6
  · exact w_c7
  · exact w_c8
  · exact w_c9
set_option maxRecDepth 65536 in
theorem w_t1 : (words1.take 24).all (fun c => isCode c || c.before args0 about1) = true := by decide +kernel
set_option maxRecDepth 65536 in
theorem w_t2 : ((words1.drop 24).take 24).all (fun c => isCode c || c.before args0 about1) = true := by decide +kernel
set_option maxRecDepth 65536 in
theorem w_t3 : ((words1.drop 24).drop 24).all (fun c => isCode c || c.before args0 about1) = true := by decide +kernel
theorem w_tables : (allAtoms (Jvm.Cond.code x code maxLocals ret :: tables_1)).before args0 about1 = true := by
  rw [allAtoms_all]
  show words1.all (fun c => c.before args0 about1) = true
  refine all_split ?_ w_codes
  rw [← List.take_append_drop 24 words1, List.all_append, w_t1, ← List.take_append_drop 24 (words1.drop 24), List.all_append, w_t2, w_t3]
  rfl
set_option maxRecDepth 65536 in
theorem w_case : (Jvm.Cond.and given_1 narrow_1).before args0 about1 = true := by decide +kernel
theorem w_applies : (headSpec (Jvm.Cond.code x code maxLocals ret :: tables_1) room_1).applies x e0.platform about1 = true :=
  (Spec.applies_iff w_frames).mpr ⟨w_running, w_runnable, w_alone, w_named, w_hears, w_ripe, w_room, w_tables⟩
theorem atStart : AtStart classFile x code maxLocals ret World_1 tables_1 room_1 Calls_1 rest_1 Pre_1 launch0 p0 e0 about1 theMethod args0 below0 :=
  ⟨lists_1, trivial, launch0.admits_env _ _ _, launch0.least_env, fairChoices_fair.cas, fairChoices_fair.clock, w_frames, w_args, w_heap, w_applies, trivial, trivial, w_case⟩
end start1
theorem witness_1 : WitnessClaimed_1 := ⟨start1.p0, start1.e0, start1.about1, start1.theMethod, start1.args0, start1.below0, start1.atStart⟩
end Jvm.Pilot.@@N@@
