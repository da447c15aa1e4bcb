import JvmDerived
import JvmDerived.Pilot.@@N@@Statement
import JvmDerived.Pilot.@@N@@Code
set_option linter.unusedVariables false
set_option linter.unusedSimpArgs false
@@BLOCK:NumsL.lean.txt@@
@@BLOCK:Masks.lean.txt@@
namespace Jvm.Own
open Sem ClassFile Op Lib Jvm.Stand Jvm.Free Jvm.LawKit Jvm.RoadKit
/-! ## A program logic over an abstract heap: references count from the start's heap size. -/
def cv (k : Nat) : Value → Value
  | .ref i => .ref (k + i)
  | v => v
def cs (k : Nat) : Slot → Slot
  | .val v => .val (cv k v)
  | .unset => .unset
  | .second => .second
theorem cv_cat (k : Nat) (v : Value) : (cv k v).category = v.category := by cases v <;> rfl
theorem cv_isRef (k : Nat) (v : Value) : (cv k v).isRef = v.isRef := by cases v <;> rfl
theorem cv_fits (k : Nat) (t : FieldType) (v : Value) : fits t (cv k v) = fits t v := by cases v <;> cases t <;> rfl
theorem cv_narrow (k : Nat) (t : FieldType) (v : Value) : narrow t (cv k v) = cv k (narrow t v) := by cases v <;> cases t <;> rfl
theorem cv_default (k : Nat) (t : FieldType) : cv k (defaultValue t) = defaultValue t := by cases t <;> rfl
theorem cat_map (k : Nat) (S : List Value) : ((S.map (cv k)).map fun v => v.category) = S.map fun v => v.category := by
  rw [List.map_map]; exact List.map_congr_left fun v _ => cv_cat k v
/-- an object: the number of its class, its fields' values; or an array: its kind, its values -/
abbrev ACell := (Nat × List Value) ⊕ (FieldType × List Value)
abbrev AHeap := List ACell
/-- the classes: name, slots, fields (declaring class, name, descriptor, type) -/
abbrev KTab := List (String × Nat × List (String × String × String × FieldType))
/-- a method: name, bytes, max_locals, return type -/
abbrev Mth := MethodName × ByteArray × Nat × Option FieldType
def CellOk (Z : State) (K : KTab) (h : Heap) (a : Addr) : ACell → Prop
  | .inl (c, vs) => ∃ (C : String) (n : Nat) (fs : List (String × String × String × FieldType)), K[c]? = some (C, n, fs) ∧ vs.length = fs.length ∧ Exa Z h a C ∧ ∀ (j : Nat) (f : String × String × String × FieldType) (v : Value), fs[j]? = some f → vs[j]? = some v → Fld Z h a f.1 f.2.1 f.2.2.1 (cv Z.heap.size v)
  | .inr (ty, vs) => ∃ cell : Cell, Arr Z h a cell ty ∧ cell.slots = (vs.map (cv Z.heap.size)).toArray ∧ ∀ v ∈ vs, fits ty v = true
def Rel (Z : State) (K : KTab) (h : Heap) (H : AHeap) : Prop :=
  h.size = Z.heap.size + H.length ∧ ∀ (i : Nat) (c : ACell), H[i]? = some c → CellOk Z K h (Z.heap.size + i) c
def FOk (tb : List Cond) (C : String) (f : String × String × String × FieldType) : Prop :=
  (Cond.lays C f.1 f.2.1 f.2.2.1 ∈ tb ∨ Cond.laysFinal C f.1 f.2.1 f.2.2.1 ∈ tb) ∧ parseFieldDescriptor f.2.2.1 = some f.2.2.2
def KOk (tb : List Cond) (K : KTab) : Prop :=
  ∀ q ∈ K, Cond.instantiable q.1 q.2.1 ∈ tb ∧ (∀ f ∈ q.2.2, FOk tb q.1 f) ∧ (q.2.2.map fun f => f.2.1).Nodup
theorem KOk.nil {tb : List Cond} : KOk tb [] := fun _ h => nomatch h
theorem KOk.cons {tb : List Cond} {K : KTab} {q : String × Nat × List (String × String × String × FieldType)} (h1 : Cond.instantiable q.1 q.2.1 ∈ tb) (h2 : ∀ f ∈ q.2.2, FOk tb q.1 f) (h3 : (q.2.2.map fun f => f.2.1).Nodup) (h : KOk tb K) : KOk tb (q :: K) := fun x hx => by
  rcases List.mem_cons.mp hx with rfl | hx
  · exact ⟨h1, h2, h3⟩
  · exact h x hx
theorem fok0 {tb : List Cond} {C : String} : ∀ f ∈ ([] : List (String × String × String × FieldType)), FOk tb C f := fun _ h => nomatch h
theorem fokS {tb : List Cond} {C : String} {g : String × String × String × FieldType} {L : List (String × String × String × FieldType)} (h1 : FOk tb C g) (h2 : ∀ f ∈ L, FOk tb C f) : ∀ f ∈ g :: L, FOk tb C f := fun f hf => by
  rcases List.mem_cons.mp hf with rfl | hf
  · exact h1
  · exact h2 f hf
/-- where a walk stands -/
def Here (tb : List Cond) (K : KTab) (μ : Mth) (rm : Room) (H : AHeap) (Z : State) (a0 : Array Value) (p : Program) (l : Launch) (e : Env) (R : Room) (s : State) (m : MethodId) (args : Array Value) (below : List Frame) (meth : Method) (c : Code)
    (T : State) (locs : List Loc) (cells slots : Nat) : Prop :=
  Stand p l e R s m args below meth c T locs cells slots ∧ p.tables.exec = Jvm.exec ∧ Z.Warmed39 s.vm ∧ (∀ d ∈ tb, d.before a0 Z = true) ∧ c.code = μ.2.1 ∧ c.maxLocals = μ.2.2.1 ∧ meth.sig.returnType = μ.2.2.2 ∧ meth.name = μ.1.name ∧ meth.locks = false ∧
    s.vm.findClass μ.1.cls = some m.cls ∧ Rel Z K T.heap H ∧ Fr Z.heap.size locs ∧ rm.frames ≤ R.frames ∧ cells + rm.cells ≤ R.cells ∧ slots + rm.slots ≤ R.slots ∧ rm.locals ≤ R.locals
/-- how it ends -/
def Ends (K : KTab) (Q : Option Value → AHeap → Prop) (Z : State) (p : Program) (e : Env) (R : Room) (s : State) (below : List Frame) (T0 : State) : Prop :=
  ∃ (v : Option Value) (H' : AHeap) (T : State) (locs : List Loc) (fs : List Frame), Q v H' ∧ Steps p.tables e below T0 (T.setFrames fs) ∧ (T.setFrames fs).status = .running ∧ Ended (T.setFrames fs) below (.returned (v.map (cv Z.heap.size))) ∧
    s.WarmedH (T.setFrames fs).vm ∧ s.sameButNew ({ T.setFrames fs with vm := s.vm } : State) locs R.cells R.slots ∧ Fr Z.heap.size locs ∧ Rel Z K T.heap H'
/-- from the frame (pc, L, S) over the heap H the body returns, and Q -/
def W (tb : List Cond) (K : KTab) (μ : Mth) (rm : Room) (pc : Nat) (L : List Slot) (S : List Value) (H : AHeap) (Q : Option Value → AHeap → Prop) : Prop :=
  L.length = μ.2.2.1 → ∀ (Z : State) (a0 : Array Value) (p : Program) (l : Launch) (e : Env) (R : Room) (s : State) (m : MethodId) (args : Array Value) (below : List Frame) (meth : Method) (c : Code) (T : State) (locs : List Loc) (cells slots : Nat),
    Here tb K μ rm H Z a0 p l e R s m args below meth c T locs cells slots → Ends K Q Z p e R s below (T.setTop (mkF m pc (L.map (cs Z.heap.size)).toArray (S.map (cv Z.heap.size))))
/-- a call of μ comes back, and Q -/
def M (tb : List Cond) (K : KTab) (μ : Mth) (rm : Room) (as : List Value) (H : AHeap) (Q : Option Value → AHeap → Prop) : Prop :=
  ∀ (Z : State) (a0 : Array Value), (∀ d ∈ tb, d.before a0 Z = true) → ∀ (l : Launch) (h : Heap) (ws : List Cond), Rel Z K h H →
    MetFree l μ.1 (head1 (Cond.code μ.1 μ.2.1 μ.2.2.1 μ.2.2.2 :: ws) rm) (fun a U => a = (as.map (cv Z.heap.size)).toArray ∧ Z.Warmed39 U.vm ∧ U.heap = h) (fun _ _ _ _ _ => True)
      (fun _ U o U' => ∃ v L, o = .returned v ∧ (∃ v' H', v = v'.map (cv Z.heap.size) ∧ Rel Z K U'.heap H' ∧ Q v' H' ∧ Fr Z.heap.size L) ∧ FrameEnd U o U' L rm.cells rm.slots)
section Logic
variable {tb : List Cond} {K : KTab} {μ : Mth} {rm : Room} {pc : Nat} {L : List Slot} {S : List Value} {H : AHeap} {Q Q' : Option Value → AHeap → Prop}
theorem Ends.mono {Z : State} {p : Program} {e : Env} {R : Room} {s : State} {below : List Frame} {T0 : State} (h : Ends K Q Z p e R s below T0) (hq : ∀ v H, Q v H → Q' v H) : Ends K Q' Z p e R s below T0 := by
  obtain ⟨v, H', T, locs, fs, h1, r⟩ := h; exact ⟨v, H', T, locs, fs, hq _ _ h1, r⟩
theorem W.mono (h : W tb K μ rm pc L S H Q) (hq : ∀ v H, Q v H → Q' v H) : W tb K μ rm pc L S H Q' := fun hl Z a0 p l e R s m args below meth c T locs cells slots X => (h hl Z a0 p l e R s m args below meth c T locs cells slots X).mono hq
theorem M.mono {as : List Value} (h : M tb K μ rm as H Q) (hq : ∀ v H, Q v H → Q' v H) : M tb K μ rm as H Q' := fun Z a0 hw l h0 ws hr p e ha hc hk s m args below hf happ hP hK => by
  obtain ⟨n, o, h1, h2, h3, v, L, h4, ⟨v', H', h5, h6, h7, h8⟩, h9⟩ := h Z a0 hw l h0 ws hr p e ha hc hk s m args below hf happ hP hK
  exact ⟨n, o, h1, h2, h3, v, L, h4, ⟨v', H', h5, h6, hq _ _ h7, h8⟩, h9⟩
theorem Ends.steps {Z : State} {p : Program} {e : Env} {R : Room} {s : State} {below : List Frame} {T0 T1 : State} (st : ∀ target, Steps p.tables e below T1 target → Steps p.tables e below T0 target) (h : Ends K Q Z p e R s below T1) : Ends K Q Z p e R s below T0 := by
  obtain ⟨v, H', T, locs, fs, h1, h2, r⟩ := h; exact ⟨v, H', T, locs, fs, h1, st _ h2, r⟩
/-- a step that moves the frame alone -/
theorem W.pure {pc' : Nat} {L' : List Slot} {S' : List Value} (hl : L'.length = L.length)
    (st : ∀ (k : Nat) (p : Program) (e : Env) (m : MethodId) (below : List Frame) (c : Code) (T : State), At T m c below → p.tables.exec = Jvm.exec → c.code = μ.2.1 → ∀ target, Steps p.tables e below (T.setTop (mkF m pc' (L'.map (cs k)).toArray (S'.map (cv k)))) target → Steps p.tables e below (T.setTop (mkF m pc (L.map (cs k)).toArray (S.map (cv k)))) target)
    (h : W tb K μ rm pc' L' S' H Q) : W tb K μ rm pc L S H Q := fun hL Z a0 p l e R s m args below meth c T locs cells slots X =>
  (h (hl.trans hL) Z a0 p l e R s m args below meth c T locs cells slots X).steps (st _ p e m below c T X.1.here X.2.1 X.2.2.2.2.1)
theorem get_conc {k : Nat} {i : Nat} {v : Value} (h : L[i]? = some (.val v)) : (L.map (cs k)).toArray[i]? = some (.val (cv k v)) := by
  simp [h, cs]
theorem W.iload_n {i : Fin 4} {x : Int32} (hd : decode μ.2.1 pc = .ok (.iload_n i, 1)) (hl : L[i.val]? = some (.val (.int x))) (h : W tb K μ rm (pc + 1) L (.int x :: S) H Q) : W tb K μ rm pc L S H Q :=
  W.pure rfl (fun k p e m below c T hA hx hb' t ht => XS.iloadN hA hx rfl (hb hb' hd) (get_conc hl) ht) h
theorem W.iload {i : Nat} {x : Int32} (hd : decode μ.2.1 pc = .ok (.iload i, 2)) (hl : L[i]? = some (.val (.int x))) (h : W tb K μ rm (pc + 2) L (.int x :: S) H Q) : W tb K μ rm pc L S H Q :=
  W.pure rfl (fun k p e m below c T hA hx hb' t ht => XS.iload hA hx rfl (hb hb' hd) (get_conc hl) ht) h
theorem W.lload_n {i : Fin 4} {x : Int64} (hd : decode μ.2.1 pc = .ok (.lload_n i, 1)) (hl : L[i.val]? = some (.val (.long x))) (h : W tb K μ rm (pc + 1) L (.long x :: S) H Q) : W tb K μ rm pc L S H Q :=
  W.pure rfl (fun k p e m below c T hA hx hb' t ht => XS.lloadN hA hx rfl (hb hb' hd) (get_conc hl) ht) h
theorem W.lload {i : Nat} {x : Int64} (hd : decode μ.2.1 pc = .ok (.lload i, 2)) (hl : L[i]? = some (.val (.long x))) (h : W tb K μ rm (pc + 2) L (.long x :: S) H Q) : W tb K μ rm pc L S H Q :=
  W.pure rfl (fun k p e m below c T hA hx hb' t ht => XS.lload hA hx rfl (hb hb' hd) (get_conc hl) ht) h
theorem W.aload_n {i : Fin 4} {v : Value} (hd : decode μ.2.1 pc = .ok (.aload_n i, 1)) (hl : L[i.val]? = some (.val v)) (hv : v.isRef = true) (h : W tb K μ rm (pc + 1) L (v :: S) H Q) : W tb K μ rm pc L S H Q :=
  W.pure rfl (fun k p e m below c T hA hx hb' t ht => XS.aloadN hA hx rfl (hb hb' hd) (get_conc hl) (by rw [cv_isRef]; exact hv) ht) h
theorem W.aload {i : Nat} {v : Value} (hd : decode μ.2.1 pc = .ok (.aload i, 2)) (hl : L[i]? = some (.val v)) (hv : v.isRef = true) (h : W tb K μ rm (pc + 2) L (v :: S) H Q) : W tb K μ rm pc L S H Q :=
  W.pure rfl (fun k p e m below c T hA hx hb' t ht => XS.aload hA hx rfl (hb hb' hd) (get_conc hl) (by rw [cv_isRef]; exact hv) ht) h
theorem W.iadd {x y : Int32} (hd : decode μ.2.1 pc = .ok (.iadd, 1)) (h : W tb K μ rm (pc + 1) L (.int (x + y) :: S) H Q) : W tb K μ rm pc L (.int y :: .int x :: S) H Q :=
  W.pure rfl (fun k p e m below c T hA hx hb' t ht => XS.iadd hA hx rfl (hb hb' hd) rfl ht) h
theorem W.isub {x y : Int32} (hd : decode μ.2.1 pc = .ok (.isub, 1)) (h : W tb K μ rm (pc + 1) L (.int (x - y) :: S) H Q) : W tb K μ rm pc L (.int y :: .int x :: S) H Q :=
  W.pure rfl (fun k p e m below c T hA hx hb' t ht => XS.isub hA hx rfl (hb hb' hd) rfl ht) h
theorem W.imul {x y : Int32} (hd : decode μ.2.1 pc = .ok (.imul, 1)) (h : W tb K μ rm (pc + 1) L (.int (x * y) :: S) H Q) : W tb K μ rm pc L (.int y :: .int x :: S) H Q :=
  W.pure rfl (fun k p e m below c T hA hx hb' t ht => XS.imul hA hx rfl (hb hb' hd) rfl ht) h
theorem W.idiv {x y : Int32} (hd : decode μ.2.1 pc = .ok (.idiv, 1)) (hy : y ≠ 0) (h : W tb K μ rm (pc + 1) L (.int (x / y) :: S) H Q) : W tb K μ rm pc L (.int y :: .int x :: S) H Q :=
  W.pure rfl (fun k p e m below c T hA hx hb' t ht => XS.idiv hA hx rfl (hb hb' hd) rfl hy ht) h
theorem W.irem {x y : Int32} (hd : decode μ.2.1 pc = .ok (.irem, 1)) (hy : y ≠ 0) (h : W tb K μ rm (pc + 1) L (.int (x % y) :: S) H Q) : W tb K μ rm pc L (.int y :: .int x :: S) H Q :=
  W.pure rfl (fun k p e m below c T hA hx hb' t ht => XS.irem hA hx rfl (hb hb' hd) rfl hy (by rw [irem_eq_mod x y]; exact ht)) h
theorem W.ineg {x : Int32} (hd : decode μ.2.1 pc = .ok (.ineg, 1)) (h : W tb K μ rm (pc + 1) L (.int (-x) :: S) H Q) : W tb K μ rm pc L (.int x :: S) H Q :=
  W.pure rfl (fun k p e m below c T hA hx hb' t ht => XS.ineg hA hx rfl (hb hb' hd) rfl ht) h
theorem W.iand {x y : Int32} (hd : decode μ.2.1 pc = .ok (.iand, 1)) (h : W tb K μ rm (pc + 1) L (.int (x &&& y) :: S) H Q) : W tb K μ rm pc L (.int y :: .int x :: S) H Q :=
  W.pure rfl (fun k p e m below c T hA hx hb' t ht => XS.iand hA hx rfl (hb hb' hd) rfl ht) h
theorem W.ior {x y : Int32} (hd : decode μ.2.1 pc = .ok (.ior, 1)) (h : W tb K μ rm (pc + 1) L (.int (x ||| y) :: S) H Q) : W tb K μ rm pc L (.int y :: .int x :: S) H Q :=
  W.pure rfl (fun k p e m below c T hA hx hb' t ht => XT.ior hA hx rfl (hb hb' hd) rfl ht) h
theorem W.ixor {x y : Int32} (hd : decode μ.2.1 pc = .ok (.ixor, 1)) (h : W tb K μ rm (pc + 1) L (.int (x ^^^ y) :: S) H Q) : W tb K μ rm pc L (.int y :: .int x :: S) H Q :=
  W.pure rfl (fun k p e m below c T hA hx hb' t ht => XT.ixor hA hx rfl (hb hb' hd) rfl ht) h
theorem W.ishl {x y : Int32} (hd : decode μ.2.1 pc = .ok (.ishl, 1)) (h : W tb K μ rm (pc + 1) L (.int (x <<< (y &&& 31)) :: S) H Q) : W tb K μ rm pc L (.int y :: .int x :: S) H Q :=
  W.pure rfl (fun k p e m below c T hA hx hb' t ht => XT.ishl hA hx rfl (hb hb' hd) rfl ht) h
theorem W.ishr {x y : Int32} (hd : decode μ.2.1 pc = .ok (.ishr, 1)) (h : W tb K μ rm (pc + 1) L (.int (x >>> (y &&& 31)) :: S) H Q) : W tb K μ rm pc L (.int y :: .int x :: S) H Q :=
  W.pure rfl (fun k p e m below c T hA hx hb' t ht => XT.ishr hA hx rfl (hb hb' hd) rfl ht) h
theorem W.iushr {x y : Int32} (hd : decode μ.2.1 pc = .ok (.iushr, 1)) (h : W tb K μ rm (pc + 1) L (.int (XT.ushr x y) :: S) H Q) : W tb K μ rm pc L (.int y :: .int x :: S) H Q :=
  W.pure rfl (fun k p e m below c T hA hx hb' t ht => XT.iushr hA hx rfl (hb hb' hd) rfl ht) h
theorem W.ladd {x y : Int64} (hd : decode μ.2.1 pc = .ok (.ladd, 1)) (h : W tb K μ rm (pc + 1) L (.long (x + y) :: S) H Q) : W tb K μ rm pc L (.long y :: .long x :: S) H Q :=
  W.pure rfl (fun k p e m below c T hA hx hb' t ht => XT.ladd hA hx rfl (hb hb' hd) rfl ht) h
theorem W.lsub {x y : Int64} (hd : decode μ.2.1 pc = .ok (.lsub, 1)) (h : W tb K μ rm (pc + 1) L (.long (x - y) :: S) H Q) : W tb K μ rm pc L (.long y :: .long x :: S) H Q :=
  W.pure rfl (fun k p e m below c T hA hx hb' t ht => XT.lsub hA hx rfl (hb hb' hd) rfl ht) h
theorem W.lmul {x y : Int64} (hd : decode μ.2.1 pc = .ok (.lmul, 1)) (h : W tb K μ rm (pc + 1) L (.long (x * y) :: S) H Q) : W tb K μ rm pc L (.long y :: .long x :: S) H Q :=
  W.pure rfl (fun k p e m below c T hA hx hb' t ht => XT.lmul hA hx rfl (hb hb' hd) rfl ht) h
theorem W.ldiv {x y : Int64} (hd : decode μ.2.1 pc = .ok (.ldiv, 1)) (hy : y ≠ 0) (h : W tb K μ rm (pc + 1) L (.long (x / y) :: S) H Q) : W tb K μ rm pc L (.long y :: .long x :: S) H Q :=
  W.pure rfl (fun k p e m below c T hA hx hb' t ht => XT.ldiv hA hx rfl (hb hb' hd) rfl hy ht) h
theorem W.land {x y : Int64} (hd : decode μ.2.1 pc = .ok (.land, 1)) (h : W tb K μ rm (pc + 1) L (.long (x &&& y) :: S) H Q) : W tb K μ rm pc L (.long y :: .long x :: S) H Q :=
  W.pure rfl (fun k p e m below c T hA hx hb' t ht => XT.land hA hx rfl (hb hb' hd) rfl ht) h
theorem W.lor {x y : Int64} (hd : decode μ.2.1 pc = .ok (.lor, 1)) (h : W tb K μ rm (pc + 1) L (.long (x ||| y) :: S) H Q) : W tb K μ rm pc L (.long y :: .long x :: S) H Q :=
  W.pure rfl (fun k p e m below c T hA hx hb' t ht => XT.lor hA hx rfl (hb hb' hd) rfl ht) h
theorem W.lxor {x y : Int64} (hd : decode μ.2.1 pc = .ok (.lxor, 1)) (h : W tb K μ rm (pc + 1) L (.long (x ^^^ y) :: S) H Q) : W tb K μ rm pc L (.long y :: .long x :: S) H Q :=
  W.pure rfl (fun k p e m below c T hA hx hb' t ht => XT.lxor hA hx rfl (hb hb' hd) rfl ht) h
theorem W.lshl {x : Int64} {y : Int32} (hd : decode μ.2.1 pc = .ok (.lshl, 1)) (h : W tb K μ rm (pc + 1) L (.long (x <<< (y.toInt64 &&& 63)) :: S) H Q) : W tb K μ rm pc L (.int y :: .long x :: S) H Q :=
  W.pure rfl (fun k p e m below c T hA hx hb' t ht => XT.lshl hA hx rfl (hb hb' hd) rfl ht) h
theorem W.lushr {x : Int64} {y : Int32} (hd : decode μ.2.1 pc = .ok (.lushr, 1)) (h : W tb K μ rm (pc + 1) L (.long (XT.ushrL x y) :: S) H Q) : W tb K μ rm pc L (.int y :: .long x :: S) H Q :=
  W.pure rfl (fun k p e m below c T hA hx hb' t ht => XT.lushr hA hx rfl (hb hb' hd) rfl ht) h
theorem W.lcmp {x y : Int64} (hd : decode μ.2.1 pc = .ok (.lcmp, 1)) (h : W tb K μ rm (pc + 1) L (.int (XT.cmpL x y) :: S) H Q) : W tb K μ rm pc L (.long y :: .long x :: S) H Q :=
  W.pure rfl (fun k p e m below c T hA hx hb' t ht => XT.lcmp hA hx rfl (hb hb' hd) rfl ht) h
theorem W.i2l {x : Int32} (hd : decode μ.2.1 pc = .ok (.i2l, 1)) (h : W tb K μ rm (pc + 1) L (.long x.toInt64 :: S) H Q) : W tb K μ rm pc L (.int x :: S) H Q :=
  W.pure rfl (fun k p e m below c T hA hx hb' t ht => XT.i2l hA hx rfl (hb hb' hd) rfl ht) h
theorem W.l2i {x : Int64} (hd : decode μ.2.1 pc = .ok (.l2i, 1)) (h : W tb K μ rm (pc + 1) L (.int x.toInt32 :: S) H Q) : W tb K μ rm pc L (.long x :: S) H Q :=
  W.pure rfl (fun k p e m below c T hA hx hb' t ht => XT.l2i hA hx rfl (hb hb' hd) rfl ht) h
theorem W.i2b {x : Int32} (hd : decode μ.2.1 pc = .ok (.i2b, 1)) (h : W tb K μ rm (pc + 1) L (.int x.toInt8.toInt32 :: S) H Q) : W tb K μ rm pc L (.int x :: S) H Q :=
  W.pure rfl (fun k p e m below c T hA hx hb' t ht => XT.i2b hA hx rfl (hb hb' hd) rfl ht) h
theorem W.i2c {x : Int32} (hd : decode μ.2.1 pc = .ok (.i2c, 1)) (h : W tb K μ rm (pc + 1) L (.int x.toUInt32.toUInt16.toUInt32.toInt32 :: S) H Q) : W tb K μ rm pc L (.int x :: S) H Q :=
  W.pure rfl (fun k p e m below c T hA hx hb' t ht => XT.i2c hA hx rfl (hb hb' hd) rfl ht) h
theorem W.iconst {i : Int} (hd : decode μ.2.1 pc = .ok (.iconst i, 1)) (h : W tb K μ rm (pc + 1) L (.int (Int32.ofInt i) :: S) H Q) : W tb K μ rm pc L (S) H Q :=
  W.pure rfl (fun k p e m below c T hA hx hb' t ht => XS.iconst hA hx rfl (hb hb' hd) ht) h
theorem W.bipush {i : Int} (hd : decode μ.2.1 pc = .ok (.bipush i, 2)) (h : W tb K μ rm (pc + 2) L (.int (Int8.ofInt i).toInt32 :: S) H Q) : W tb K μ rm pc L (S) H Q :=
  W.pure rfl (fun k p e m below c T hA hx hb' t ht => XS.bipush hA hx rfl (hb hb' hd) ht) h
theorem W.sipush {i : Int} (hd : decode μ.2.1 pc = .ok (.sipush i, 3)) (h : W tb K μ rm (pc + 3) L (.int (Int16.ofInt i).toInt32 :: S) H Q) : W tb K μ rm pc L (S) H Q :=
  W.pure rfl (fun k p e m below c T hA hx hb' t ht => XS.sipush hA hx rfl (hb hb' hd) ht) h
theorem W.lconst {i : Fin 2} (hd : decode μ.2.1 pc = .ok (.lconst i, 1)) (h : W tb K μ rm (pc + 1) L (.long (Int64.ofNat i) :: S) H Q) : W tb K μ rm pc L (S) H Q :=
  W.pure rfl (fun k p e m below c T hA hx hb' t ht => XT.lconst hA hx rfl (hb hb' hd) ht) h
theorem W.aconst_null  (hd : decode μ.2.1 pc = .ok (.aconst_null, 1)) (h : W tb K μ rm (pc + 1) L (.null :: S) H Q) : W tb K μ rm pc L (S) H Q :=
  W.pure rfl (fun k p e m below c T hA hx hb' t ht => XS.aconstNull hA hx rfl (hb hb' hd) ht) h
theorem W.dup {v : Value} (hd : decode μ.2.1 pc = .ok (.dup, 1)) (hc : v.category = 1) (h : W tb K μ rm (pc + 1) L (v :: v :: S) H Q) : W tb K μ rm pc L (v :: S) H Q :=
  W.pure rfl (fun k p e m below c T hA hx hb' t ht => XS.dup hA hx rfl (hb hb' hd) rfl (by rw [cv_cat]; exact hc) ht) h
theorem W.pop {v : Value} (hd : decode μ.2.1 pc = .ok (.pop, 1)) (hc : v.category = 1) (h : W tb K μ rm (pc + 1) L (S) H Q) : W tb K μ rm pc L (v :: S) H Q :=
  W.pure rfl (fun k p e m below c T hA hx hb' t ht => XT.pop hA hx rfl (hb hb' hd) rfl (by rw [cv_cat]; exact hc) ht) h
theorem W.dup_x1 {v w : Value} (hd : decode μ.2.1 pc = .ok (.dup_x1, 1)) (hc : v.category = 1) (hc' : w.category = 1) (h : W tb K μ rm (pc + 1) L (v :: w :: v :: S) H Q) : W tb K μ rm pc L (v :: w :: S) H Q :=
  W.pure rfl (fun k p e m below c T hA hx hb' t ht => XT.dupX1 hA hx rfl (hb hb' hd) rfl (by rw [cv_cat]; exact hc) (by rw [cv_cat]; exact hc') ht) h
theorem W.iconst' {i : Int} {x : Int32} (hd : decode μ.2.1 pc = .ok (.iconst i, 1)) (hx : Int32.ofInt i = x) (h : W tb K μ rm (pc + 1) L (.int x :: S) H Q) : W tb K μ rm pc L S H Q := W.iconst hd (by rw [hx]; exact h)
theorem W.bipush' {i : Int} {x : Int32} (hd : decode μ.2.1 pc = .ok (.bipush i, 2)) (hx : (Int8.ofInt i).toInt32 = x) (h : W tb K μ rm (pc + 2) L (.int x :: S) H Q) : W tb K μ rm pc L S H Q := W.bipush hd (by rw [hx]; exact h)
theorem W.sipush' {i : Int} {x : Int32} (hd : decode μ.2.1 pc = .ok (.sipush i, 3)) (hx : (Int16.ofInt i).toInt32 = x) (h : W tb K μ rm (pc + 3) L (.int x :: S) H Q) : W tb K μ rm pc L S H Q := W.sipush hd (by rw [hx]; exact h)
theorem W.lconst' {i : Fin 2} {x : Int64} (hd : decode μ.2.1 pc = .ok (.lconst i, 1)) (hx : Int64.ofNat i = x) (h : W tb K μ rm (pc + 1) L (.long x :: S) H Q) : W tb K μ rm pc L S H Q := W.lconst hd (by rw [hx]; exact h)
/-- a local of one word -/
def one : Slot → Bool
  | .unset => true
  | .val v => v.category == 1
  | .second => false
theorem cs_one {k : Nat} {o : Slot} (h : one o = true) : cs k o = .unset ∨ ∃ w, cs k o = .val w ∧ w.category = 1 := by
  cases o with
  | unset => exact Or.inl rfl
  | second => cases h
  | val v => exact Or.inr ⟨cv k v, rfl, by rw [cv_cat]; simpa [one] using h⟩
theorem set_conc {k i : Nat} {x : Slot} : (L.map (cs k)).toArray.setIfInBounds i (cs k x) = ((L.set i x).map (cs k)).toArray := by
  simp [List.map_set]
theorem sto1 {k i : Nat} {o : Slot} {v : Value} (hl : L[i]? = some o) (ho : one o = true) (hv : v.category = 1) : storeLocals (L.map (cs k)).toArray i (cv k v) = some ((L.set i (.val v)).map (cs k)).toArray := by
  rw [XS.store1 (o := cs k o) (by simp [hl]) (cs_one ho) (by rw [cv_cat]; exact hv)]
  exact congrArg some (set_conc (x := .val v))
/-- over the first half of a long -/
theorem sto1w {k i : Nat} {w v : Value} (hl : L[i]? = some (.val w)) (ho : w.category = 2) (hi : i + 1 < L.length) (hv : v.category = 1) : storeLocals (L.map (cs k)).toArray i (cv k v) = some (((L.set (i + 1) .unset).set i (.val v)).map (cs k)).toArray := by
  have h0 : i < L.length := by omega
  have e : L[i] = .val w := by rw [List.getElem?_eq_getElem h0] at hl; exact Option.some.inj hl
  simp [storeLocals, storeSelf, setAt, h0, e, cs, cv_cat, ho, hi, hv, List.map_set]
/-- over the second half of a long -/
theorem sto1s {k i : Nat} {v : Value} (hl : L[i]? = some .second) (hi : 0 < i) (hv : v.category = 1) : storeLocals (L.map (cs k)).toArray i (cv k v) = some (((L.set (i - 1) .unset).set i (.val v)).map (cs k)).toArray := by
  have h0 : i < L.length := (List.getElem?_eq_some_iff.mp hl).1
  have e : L[i] = .second := by rw [List.getElem?_eq_getElem h0] at hl; exact Option.some.inj hl
  have h1 : i - 1 < L.length := by omega
  simp [storeLocals, storeSelf, setAt, h0, h1, e, cs, cv_cat, hv, List.map_set]
/-- what a long may be stored over -/
def two : Slot → Slot → Bool
  | .second, _ => false
  | _, .val w => w.category == 1
  | _, _ => true
theorem sto2 {k i : Nat} {o o' : Slot} {x : Int64} (hl : L[i]? = some o) (hl' : L[i + 1]? = some o') (ho : two o o' = true) : storeLocals (L.map (cs k)).toArray i (.long x) = some (((L.set i (.val (.long x))).set (i + 1) .second).map (cs k)).toArray := by
  have h0 : i < L.length := (List.getElem?_eq_some_iff.mp hl).1
  have h1 : i + 1 < L.length := (List.getElem?_eq_some_iff.mp hl').1
  have e : L[i] = o := by rw [List.getElem?_eq_getElem h0] at hl; exact Option.some.inj hl
  have e' : L[i + 1] = o' := by rw [List.getElem?_eq_getElem h1] at hl'; exact Option.some.inj hl'
  have ne : ¬ (i = i + 1) := by omega
  have c2 : (Value.long x).category = 2 := rfl
  have cl : cv k (.long x) = .long x := rfl
  have sw : ∀ (l : List Slot) (u v w : Slot), ((l.set (i + 1) u).set i v).set (i + 1) w = (l.set i v).set (i + 1) w := fun l u v w => by
    rw [List.set_comm _ _ (by omega : i + 1 ≠ i), List.set_set]
  cases o with
  | second => cases ho
  | unset =>
    cases o' with
    | unset => simp [storeLocals, storeSelf, setAt, h0, h1, e, e', cs, c2, cl, List.map_set]
    | second => simp [storeLocals, storeSelf, setAt, h0, h1, e, e', cs, c2, cl, List.map_set]
    | val w' =>
      have hc : w'.category = 1 := by simpa [two] using ho
      simp [storeLocals, storeSelf, setAt, h0, h1, e, e', cs, cv_cat, hc, c2, cl, List.map_set]
  | val w =>
    by_cases hw : w.category = 2
    · simp [storeLocals, storeSelf, setAt, h0, h1, e, cs, cv_cat, hw, c2, cl, List.map_set, sw]
    · cases o' with
      | unset => simp [storeLocals, storeSelf, setAt, h0, h1, e, e', cs, cv_cat, hw, c2, cl, List.map_set]
      | second => simp [storeLocals, storeSelf, setAt, h0, h1, e, e', cs, cv_cat, hw, c2, cl, List.map_set]
      | val w' =>
        have hc : w'.category = 1 := by simpa [two] using ho
        simp [storeLocals, storeSelf, setAt, h0, h1, e, e', cs, cv_cat, hw, hc, c2, cl, List.map_set]
theorem W.istore_n {i : Fin 4} {o : Slot} {x : Int32} (hd : decode μ.2.1 pc = .ok (.istore_n i, 1)) (hl : L[i.val]? = some o) (ho : one o = true) (h : W tb K μ rm (pc + 1) (L.set i.val (.val (.int x))) S H Q) : W tb K μ rm pc L (.int x :: S) H Q :=
  W.pure (by simp) (fun k p e m below c T hA hx hb' t ht => XS.istoreN hA hx rfl (hb hb' hd) rfl (sto1 (v := .int x) hl ho rfl) ht) h
theorem W.istore_nW {i : Fin 4} {w : Value} {x : Int32} (hd : decode μ.2.1 pc = .ok (.istore_n i, 1)) (hl : L[i.val]? = some (.val w)) (ho : w.category = 2) (hi : i.val + 1 < L.length) (h : W tb K μ rm (pc + 1) ((L.set (i.val + 1) .unset).set i.val (.val (.int x))) S H Q) : W tb K μ rm pc L (.int x :: S) H Q :=
  W.pure (by simp) (fun k p e m below c T hA hx hb' t ht => XS.istoreN hA hx rfl (hb hb' hd) rfl (sto1w (v := .int x) hl ho hi rfl) ht) h
theorem W.istore_nS {i : Fin 4} {x : Int32} (hd : decode μ.2.1 pc = .ok (.istore_n i, 1)) (hl : L[i.val]? = some .second) (hi : 0 < i.val) (h : W tb K μ rm (pc + 1) ((L.set (i.val - 1) .unset).set i.val (.val (.int x))) S H Q) : W tb K μ rm pc L (.int x :: S) H Q :=
  W.pure (by simp) (fun k p e m below c T hA hx hb' t ht => XS.istoreN hA hx rfl (hb hb' hd) rfl (sto1s (v := .int x) hl hi rfl) ht) h
theorem W.istore {i : Nat} {o : Slot} {x : Int32} (hd : decode μ.2.1 pc = .ok (.istore i, 2)) (hl : L[i]? = some o) (ho : one o = true) (h : W tb K μ rm (pc + 2) (L.set i (.val (.int x))) S H Q) : W tb K μ rm pc L (.int x :: S) H Q :=
  W.pure (by simp) (fun k p e m below c T hA hx hb' t ht => XS.istore hA hx rfl (hb hb' hd) rfl (sto1 (v := .int x) hl ho rfl) ht) h
theorem W.istoreW {i : Nat} {w : Value} {x : Int32} (hd : decode μ.2.1 pc = .ok (.istore i, 2)) (hl : L[i]? = some (.val w)) (ho : w.category = 2) (hi : i + 1 < L.length) (h : W tb K μ rm (pc + 2) ((L.set (i + 1) .unset).set i (.val (.int x))) S H Q) : W tb K μ rm pc L (.int x :: S) H Q :=
  W.pure (by simp) (fun k p e m below c T hA hx hb' t ht => XS.istore hA hx rfl (hb hb' hd) rfl (sto1w (v := .int x) hl ho hi rfl) ht) h
theorem W.istoreS {i : Nat} {x : Int32} (hd : decode μ.2.1 pc = .ok (.istore i, 2)) (hl : L[i]? = some .second) (hi : 0 < i) (h : W tb K μ rm (pc + 2) ((L.set (i - 1) .unset).set i (.val (.int x))) S H Q) : W tb K μ rm pc L (.int x :: S) H Q :=
  W.pure (by simp) (fun k p e m below c T hA hx hb' t ht => XS.istore hA hx rfl (hb hb' hd) rfl (sto1s (v := .int x) hl hi rfl) ht) h
theorem W.astore_n {i : Fin 4} {o : Slot} {v : Value} (hd : decode μ.2.1 pc = .ok (.astore_n i, 1)) (hl : L[i.val]? = some o) (ho : one o = true) (hv : v.isRef = true) (h : W tb K μ rm (pc + 1) (L.set i.val (.val v)) S H Q) : W tb K μ rm pc L (v :: S) H Q :=
  W.pure (by simp) (fun k p e m below c T hA hx hb' t ht => XS.astoreN hA hx rfl (hb hb' hd) rfl (by rw [cv_isRef]; exact hv) (sto1 (v := v) hl ho (by cases v <;> first | rfl | cases hv)) ht) h
theorem W.astore {i : Nat} {o : Slot} {v : Value} (hd : decode μ.2.1 pc = .ok (.astore i, 2)) (hl : L[i]? = some o) (ho : one o = true) (hv : v.isRef = true) (h : W tb K μ rm (pc + 2) (L.set i (.val v)) S H Q) : W tb K μ rm pc L (v :: S) H Q :=
  W.pure (by simp) (fun k p e m below c T hA hx hb' t ht => XS.astore hA hx rfl (hb hb' hd) rfl (by rw [cv_isRef]; exact hv) (sto1 (v := v) hl ho (by cases v <;> first | rfl | cases hv)) ht) h
theorem W.lstore_n {i : Fin 4} {o o' : Slot} {x : Int64} (hd : decode μ.2.1 pc = .ok (.lstore_n i, 1)) (hl : L[i.val]? = some o) (hl' : L[i.val + 1]? = some o') (ho : two o o' = true) (h : W tb K μ rm (pc + 1) ((L.set i.val (.val (.long x))).set (i.val + 1) .second) S H Q) : W tb K μ rm pc L (.long x :: S) H Q :=
  W.pure (by simp) (fun k p e m below c T hA hx hb' t ht => XT.lstoreN hA hx rfl (hb hb' hd) rfl (sto2 hl hl' ho) ht) h
theorem W.lstore {i : Nat} {o o' : Slot} {x : Int64} (hd : decode μ.2.1 pc = .ok (.lstore i, 2)) (hl : L[i]? = some o) (hl' : L[i + 1]? = some o') (ho : two o o' = true) (h : W tb K μ rm (pc + 2) ((L.set i (.val (.long x))).set (i + 1) .second) S H Q) : W tb K μ rm pc L (.long x :: S) H Q :=
  W.pure (by simp) (fun k p e m below c T hA hx hb' t ht => XT.lstore hA hx rfl (hb hb' hd) rfl (sto2 hl hl' ho) ht) h
theorem W.iinc {i : Nat} {n : Int} {x y : Int32} (hd : decode μ.2.1 pc = .ok (.iinc i n, 3)) (hy : Int32.ofInt n = y) (hl : L[i]? = some (.val (.int x))) (h : W tb K μ rm (pc + 3) (L.set i (.val (.int (x + y)))) S H Q) : W tb K μ rm pc L S H Q := by
  subst hy
  exact W.pure (by simp) (fun k p e m below c T hA hx hb' t ht => XS.iinc hA hx rfl (hb hb' hd) (get_conc hl) (sto1 (v := .int (x + Int32.ofInt n)) hl rfl rfl) ht) h
theorem W.goto {o : Int} {pc' : Nat} (hd : decode μ.2.1 pc = .ok (.goto o, 3)) (ho : 0 ≤ (pc : Int) + o) (hp : ((pc : Int) + o).toNat = pc') (h : W tb K μ rm pc' L S H Q) : W tb K μ rm pc L S H Q :=
  W.pure rfl (fun k p e m below c T hA hx hb' t ht => XS.goto hA hx rfl rfl (hb hb' hd) ho hp ht) h
/-- what a comparison asks -/
def cnd : ClassFile.Cond → Int32 → Int32 → Prop
  | .eq, x, y => x = y
  | .ne, x, y => ¬ x = y
  | .lt, x, y => x < y
  | .ge, x, y => ¬ x < y
  | .gt, x, y => y < x
  | .le, x, y => ¬ y < x
def cndN : ClassFile.Cond → Int32 → Int32 → Prop
  | .eq, x, y => ¬ x = y
  | .ne, x, y => x = y
  | .lt, x, y => ¬ x < y
  | .ge, x, y => x < y
  | .gt, x, y => ¬ y < x
  | .le, x, y => y < x
theorem cndN_of (cd : ClassFile.Cond) (x y : Int32) (h : ¬ cnd cd x y) : cndN cd x y := by
  cases cd <;> first | exact h | exact Classical.not_not.mp h
theorem cnd_iff (cd : ClassFile.Cond) (x y : Int32) : if_icmp.holds cd x y = true ↔ cnd cd x y := by
  cases cd <;> simp [if_icmp.holds, cnd, Int32.not_lt]
theorem cnd_not (cd : ClassFile.Cond) (x y : Int32) : if_icmp.holds cd x y = false ↔ ¬ cnd cd x y := by
  rw [← cnd_iff]; cases if_icmp.holds cd x y <;> simp
theorem W.icmp {cd : ClassFile.Cond} {x y : Int32} {o : Int} {pc' : Nat} (hd : decode μ.2.1 pc = .ok (.if_icmp cd o, 3)) (ho : 0 ≤ (pc : Int) + o) (hp : ((pc : Int) + o).toNat = pc') (h1 : cnd cd x y → W tb K μ rm pc' L S H Q) (h2 : cndN cd x y → W tb K μ rm (pc + 3) L S H Q) : W tb K μ rm pc L (.int y :: .int x :: S) H Q := by
  cases hc : if_icmp.holds cd x y
  · exact W.pure rfl (fun k p e m below c T hA hx hb' t ht => XS.icmpNo hA hx rfl (hb hb' hd) rfl hc ht) (h2 (cndN_of cd x y ((cnd_not cd x y).mp hc)))
  · exact W.pure rfl (fun k p e m below c T hA hx hb' t ht => XS.icmpYes hA hx rfl rfl (hb hb' hd) rfl hc ho hp ht) (h1 ((cnd_iff cd x y).mp hc))
theorem W.ifc {cd : ClassFile.Cond} {x : Int32} {o : Int} {pc' : Nat} (hd : decode μ.2.1 pc = .ok (.ifCond cd o, 3)) (ho : 0 ≤ (pc : Int) + o) (hp : ((pc : Int) + o).toNat = pc') (h1 : cnd cd x 0 → W tb K μ rm pc' L S H Q) (h2 : cndN cd x 0 → W tb K μ rm (pc + 3) L S H Q) : W tb K μ rm pc L (.int x :: S) H Q := by
  cases hc : ifCond.holds cd x
  · exact W.pure rfl (fun k p e m below c T hA hx hb' t ht => XS.ifNo hA hx rfl (hb hb' hd) rfl hc ht) (h2 (cndN_of cd x 0 ((cnd_not cd x 0).mp (by rw [← if0]; exact hc))))
  · exact W.pure rfl (fun k p e m below c T hA hx hb' t ht => XS.ifYes hA hx rfl rfl (hb hb' hd) rfl hc ho hp ht) (h1 ((cnd_iff cd x 0).mp (by rw [← if0]; exact hc)))
def cndL : ClassFile.Cond → Int64 → Int64 → Prop
  | .eq, x, y => x = y
  | .ne, x, y => ¬ x = y
  | .lt, x, y => x < y
  | .ge, x, y => ¬ x < y
  | .gt, x, y => y < x
  | .le, x, y => ¬ y < x
def cndLN : ClassFile.Cond → Int64 → Int64 → Prop
  | .eq, x, y => ¬ x = y
  | .ne, x, y => x = y
  | .lt, x, y => ¬ x < y
  | .ge, x, y => x < y
  | .gt, x, y => ¬ y < x
  | .le, x, y => y < x
theorem cndLN_iff (cd : ClassFile.Cond) (x y : Int64) : cndLN cd x y ↔ ¬ cndL cd x y := by
  cases cd <;> first | exact Iff.rfl | exact Classical.not_not.symm
theorem cndN_iff (cd : ClassFile.Cond) (x y : Int32) : cndN cd x y ↔ ¬ cnd cd x y := by
  cases cd <;> first | exact Iff.rfl | exact Classical.not_not.symm
theorem cmpL_iff (cd : ClassFile.Cond) (x y : Int64) : cnd cd (XT.cmpL x y) 0 ↔ cndL cd x y := by
  have e : XT.cmpL x y = lcmpW x y := by simp [XT.cmpL, lcmpW]
  rw [e]
  cases cd
  · exact lw_eq x y
  · exact not_congr (lw_eq x y)
  · exact lw_lt x y
  · exact not_congr (lw_lt x y)
  · exact lw_gt x y
  · exact not_congr (lw_gt x y)
/-- lcmp and the branch behind it -/
theorem W.lcif {cd : ClassFile.Cond} {x y : Int64} {o : Int} {pc1 pc' : Nat} (hd1 : decode μ.2.1 pc = .ok (.lcmp, 1)) (hp1 : pc + 1 = pc1) (hd : decode μ.2.1 pc1 = .ok (.ifCond cd o, 3)) (ho : 0 ≤ (pc1 : Int) + o) (hp : ((pc1 : Int) + o).toNat = pc') (h1 : cndL cd x y → W tb K μ rm pc' L S H Q) (h2 : cndLN cd x y → W tb K μ rm (pc1 + 3) L S H Q) : W tb K μ rm pc L (.long y :: .long x :: S) H Q := by
  subst hp1
  exact W.lcmp hd1 (W.ifc hd ho hp (fun h => h1 ((cmpL_iff cd x y).mp h)) (fun h => h2 ((cndLN_iff cd x y).mpr fun q => (cndN_iff cd _ 0).mp h ((cmpL_iff cd x y).mpr q))))
theorem W.ifnullR {i : Nat} {o : Int} (hd : decode μ.2.1 pc = .ok (.ifnull o, 3)) (h : W tb K μ rm (pc + 3) L S H Q) : W tb K μ rm pc L (.ref i :: S) H Q :=
  W.pure rfl (fun k p e m below c T hA hx hb' t ht => XS.ifnullNo hA hx rfl (hb hb' hd) rfl ht) h
theorem W.ifnonnullR {i : Nat} {o : Int} {pc' : Nat} (hd : decode μ.2.1 pc = .ok (.ifnonnull o, 3)) (ho : 0 ≤ (pc : Int) + o) (hp : ((pc : Int) + o).toNat = pc') (h : W tb K μ rm pc' L S H Q) : W tb K μ rm pc L (.ref i :: S) H Q :=
  W.pure rfl (fun k p e m below c T hA hx hb' t ht => XT.ifnonnullYes hA hx rfl rfl (hb hb' hd) rfl ho hp ht) h
theorem W.lsw {d : Int} {ps : Array (Int × Int)} {len : Nat} {x : Int32} {o : Int} {pc' : Nat} (hd : decode μ.2.1 pc = .ok (.lookupswitch d ps, len)) (hs : (ps.toList.zip (ps.toList.drop 1)).all (fun (a, next) => a.1 < next.1) = true) (ho : lookupswitch.offset ps.toList d x.toInt = o) (h0 : 0 ≤ (pc : Int) + o) (hp : ((pc : Int) + o).toNat = pc')
    (h : W tb K μ rm pc' L S H Q) : W tb K μ rm pc L (.int x :: S) H Q := by
  subst hp
  refine W.pure rfl (fun k p e m below c T hA hx hb' t ht => ?_) h
  have hd' := hb hb' hd
  show Steps p.tables e below (T.setTop (mkF m pc (L.map (cs k)).toArray (.int x :: S.map (cv k)))) _
  jvm_step hA [hA.top, hx, hd', lookupswitch.wp_chain, ho, h0]
  refine ⟨?_, ht⟩
  simpa using hs
end Logic
end Jvm.Own
namespace Jvm.Own
open Sem ClassFile Op Lib Jvm.Stand Jvm.Free Jvm.LawKit Jvm.RoadKit
section Heap
variable {Z : State} {K : KTab} {h h' : Heap} {H : AHeap} {a b : Addr} {tb : List Cond} {a0 : Array Value}
theorem CellOk.ext {c : ACell} (E : Ext h h') (F : CellOk Z K h a c) : CellOk Z K h' a c := by
  cases c with
  | inl q =>
    obtain ⟨C, n, fs, h1, h2, h3, h4⟩ := F
    exact ⟨C, n, fs, h1, h2, h3.ext E, fun j f v hf hv => (h4 j f v hf hv).ext E⟩
  | inr q =>
    obtain ⟨cell, h1, h2⟩ := F
    exact ⟨cell, h1.ext E, h2⟩
theorem CellOk.other {c : ACell} {sl : Nat} {v : Value} (W : Wr h h' b sl v) (F : CellOk Z K h a c) (ne : a ≠ b) : CellOk Z K h' a c := by
  cases c with
  | inl q =>
    obtain ⟨C, n, fs, h1, h2, h3, h4⟩ := F
    exact ⟨C, n, fs, h1, h2, h3.wr W, fun j f v hf hv => (h4 j f v hf hv).other W (Or.inl ne)⟩
  | inr q =>
    obtain ⟨cell, h1, h2⟩ := F
    exact ⟨cell, h1.other W ne, h2⟩
theorem Rel.start (Z : State) (K : KTab) : Rel Z K Z.heap [] := ⟨rfl, fun i c q => by simp at q⟩
theorem Rel.push {c : ACell} {cell : Cell} (R : Rel Z K h H) (F : CellOk Z K (h.push cell) (Z.heap.size + H.length) c) : Rel Z K (h.push cell) (H ++ [c]) := by
  have E : Ext h (h.push cell) := ⟨by simp, fun x c q => by rw [Array.getElem?_push_lt (Array.getElem?_eq_some_iff.mp q).1]; exact (Array.getElem?_eq_getElem _).symm.trans q⟩
  refine ⟨by simp [R.1]; omega, fun i c' q => ?_⟩
  rcases Nat.lt_trichotomy i H.length with hi | hi | hi
  · rw [List.getElem?_append_left hi] at q
    exact (R.2 i c' q).ext E
  · subst hi
    rw [List.getElem?_append_right (Nat.le_refl _)] at q
    simp at q
    subst q
    exact F
  · rw [List.getElem?_append_right (Nat.le_of_lt hi)] at q
    rw [List.getElem?_eq_none (show 1 ≤ i - H.length from Nat.sub_pos_of_lt hi)] at q
    cases q
theorem Rel.set {c : ACell} {i sl : Nat} {v : Value} (R : Rel Z K h H) (W : Wr h h' (Z.heap.size + i) sl v) (F : CellOk Z K h' (Z.heap.size + i) c) : Rel Z K h' (H.set i c) := by
  refine ⟨by rw [W.size, List.length_set]; exact R.1, fun j c' q => ?_⟩
  by_cases e : j = i
  · subst e
    obtain ⟨hl, -⟩ := List.getElem?_eq_some_iff.mp q
    rw [List.getElem?_set_self (by simpa using hl)] at q
    cases q
    exact F
  · rw [List.getElem?_set_ne (Ne.symm e)] at q
    exact (R.2 j c' q).other W (fun q' => e (Nat.add_left_cancel q'))
theorem mem_of_get {q : String × Nat × List (String × String × String × FieldType)} {c : Nat} (hK : K[c]? = some q) : q ∈ K := List.mem_of_getElem? hK
theorem FOk.laid {C : String} {f : String × String × String × FieldType} (F : FOk tb C f) (hw : ∀ d ∈ tb, d.before a0 Z = true) : Laid Z a0 C f.1 f.2.1 f.2.2.1 := F.1.imp (hw _) (hw _)
theorem CellOk.put {c i j : Nat} {vs : List Value} {C : String} {n : Nat} {fs : List (String × String × String × FieldType)} {f : String × String × String × FieldType} {v : Value} (hKO : KOk tb K) (hw : ∀ d ∈ tb, d.before a0 Z = true) (hK : K[c]? = some (C, n, fs)) (hf : fs[j]? = some f)
    (W : Wr h h' a (RoadKit.slotOf Z f.1 f.2.1 f.2.2.1) (cv Z.heap.size v)) (F : CellOk Z K h a (.inl (c, vs))) : CellOk Z K h' a (.inl (c, vs.set j v)) := by
  obtain ⟨C', n', fs', h1, h2, h3, h4⟩ := F
  cases hK.symm.trans h1
  obtain ⟨k1, k2, k3⟩ := hKO _ (mem_of_get hK)
  refine ⟨C, n, fs, hK, by simpa using h2, h3.wr W, fun j' f' v' hf' hv' => ?_⟩
  by_cases e : j' = j
  · subst e
    cases hf.symm.trans hf'
    have hl : j' < vs.length := by rw [h2]; exact (List.getElem?_eq_some_iff.mp hf).1
    rw [List.getElem?_set_self hl] at hv'
    cases hv'
    obtain ⟨w, hw'⟩ : ∃ w, vs[j']? = some w := ⟨vs[j'], List.getElem?_eq_getElem hl⟩
    exact (h4 j' f w hf hw').same W
  · rw [List.getElem?_set_ne (Ne.symm e)] at hv'
    have m1 : f ∈ fs := List.mem_of_getElem? hf
    have m2 : f' ∈ fs := List.mem_of_getElem? hf'
    have hn : f'.2.1 ≠ f.2.1 := fun q => by
      have g1 : (fs.map fun f => f.2.1)[j']? = some f'.2.1 := by simp [hf']
      have g2 : (fs.map fun f => f.2.1)[j]? = some f.2.1 := by simp [hf]
      rw [q] at g1
      obtain ⟨l1, e1⟩ := List.getElem?_eq_some_iff.mp g1
      obtain ⟨l2, e2⟩ := List.getElem?_eq_some_iff.mp g2
      rcases Nat.lt_or_gt_of_ne e with lt | lt
      · exact (List.pairwise_iff_getElem.mp k3) j' j l1 l2 lt (e1.trans e2.symm)
      · exact (List.pairwise_iff_getElem.mp k3) j j' l2 l1 lt (e2.trans e1.symm)
    exact (h4 j' f' v' hf' hv').other W (Or.inr (slot_ne ((k2 f' m2).laid hw) ((k2 f m1).laid hw) hn (k2 f' m2).2 (k2 f m1).2))
theorem CellOk.sto {ty : FieldType} {vs : List Value} {j : Nat} {v : Value} (W : Wr h h' a j (cv Z.heap.size v)) (F : CellOk Z K h a (.inr (ty, vs))) (hv : fits ty v = true) : CellOk Z K h' a (.inr (ty, vs.set j v)) := by
  obtain ⟨cell, h1, h2, h3⟩ := F
  refine ⟨_, h1.same W, ?_, fun w hw => ?_⟩
  · simp [Cell.setSlot, h2, List.map_set]
  · rcases List.mem_or_eq_of_mem_set hw with q | q
    · exact h3 w q
    · exact q ▸ hv
end Heap
section Logic
variable {tb : List Cond} {K : KTab} {μ : Mth} {rm : Room} {pc : Nat} {L : List Slot} {S : List Value} {H : AHeap} {Q Q' : Option Value → AHeap → Prop}
theorem via_of {Z : State} {a0 : Array Value} (hw : ∀ d ∈ tb, d.before a0 Z = true) {R0 O n d : String} (via : R0 = O ∨ Cond.sameField R0 O n d ∈ tb) : Via Z R0 O n d := by
  rcases via with rfl | q
  · exact Via.refl
  · exact Via.of (hw _ q)
theorem W.getF {idx i j c n : Nat} {C R0 host : String} {fs : List (String × String × String × FieldType)} {vs : List Value} {f : String × String × String × FieldType} {v : Value} (hd : decode μ.2.1 pc = .ok (.getfield idx, 3))
    (w : Cond.fieldLink μ.1.cls idx R0 f.2.1 f.2.2.1 ∈ tb ∨ Cond.fieldLinkNest μ.1.cls idx R0 f.2.1 f.2.2.1 host ∈ tb) (via : R0 = f.1 ∨ Cond.sameField R0 f.1 f.2.1 f.2.2.1 ∈ tb) (hK : K[c]? = some (C, n, fs)) (hf : fs[j]? = some f) (hH : H[i]? = some (.inl (c, vs))) (hv : vs[j]? = some v)
    (h : W tb K μ rm (pc + 3) L (v :: S) H Q) : W tb K μ rm pc L (.ref i :: S) H Q := by
  intro hL Z a0 p l e R s m args below meth c' T locs cells slots X
  obtain ⟨X0, hx, hZ, hw, hby, hml, hrt, hnm, hlk, hown, hR, hr⟩ := X
  obtain ⟨C', n', fs', k1, k2, k3, k4⟩ := hR.2 _ _ hH
  cases hK.symm.trans k1
  have F := k4 j f v hf hv
  obtain ⟨T1, X1, e1, st⟩ := RoadKit.getF X0 hx hZ hown (w.imp (hw _) (hw _)) (via_of hw via) rfl F (g := mkF m pc (L.map (cs Z.heap.size)).toArray ((Value.ref i :: S).map (cv Z.heap.size))) rfl rfl (hb hby hd)
  exact (h hL Z a0 p l e R s m args below meth c' T1 locs cells slots ⟨X1, hx, hZ, hw, hby, hml, hrt, hnm, hlk, hown, e1 ▸ hR, hr⟩).steps st
theorem W.putF {idx i j c n : Nat} {C R0 host : String} {fs : List (String × String × String × FieldType)} {vs : List Value} {f : String × String × String × FieldType} {v : Value} (hKO : KOk tb K) (hd : decode μ.2.1 pc = .ok (.putfield idx, 3))
    (w : Cond.fieldLink μ.1.cls idx R0 f.2.1 f.2.2.1 ∈ tb ∨ Cond.fieldLinkNest μ.1.cls idx R0 f.2.1 f.2.2.1 host ∈ tb) (via : R0 = f.1 ∨ Cond.sameField R0 f.1 f.2.1 f.2.2.1 ∈ tb) (hK : K[c]? = some (C, n, fs)) (hf : fs[j]? = some f)
    (la : Cond.lays C f.1 f.2.1 f.2.2.1 ∈ tb ∨ (Cond.laysFinal C f.1 f.2.1 f.2.2.1 ∈ tb ∧ μ.1.cls = f.1 ∧ μ.1.name = "<init>")) (hn : narrow f.2.2.2 v = v) (hfi : fits f.2.2.2 v = true) (hH : H[i]? = some (.inl (c, vs)))
    (h : W tb K μ rm (pc + 3) L S (H.set i (.inl (c, vs.set j v))) Q) : W tb K μ rm pc L (v :: .ref i :: S) H Q := by
  intro hL Z a0 p l e R s m args below meth c' T locs cells slots X
  obtain ⟨X0, hx, hZ, hw, hby, hml, hrt, hnm, hlk, hown, hR, hFr, hr⟩ := X
  have CO := hR.2 _ _ hH
  obtain ⟨C', n', fs', k1, k2, k3, k4⟩ := CO
  cases hK.symm.trans k1
  have hl : j < vs.length := by rw [k2]; exact (List.getElem?_eq_some_iff.mp hf).1
  have F := k4 j f vs[j] hf (List.getElem?_eq_getElem hl)
  obtain ⟨o1, o2, o3⟩ := hKO _ (mem_of_get hK)
  obtain ⟨T1, h1, X1, e1, W1, st⟩ := RoadKit.putF X0 hx hZ hown (w.imp (hw _) (hw _)) (via_of hw via) rfl F k3 (la.imp (hw _) fun q => ⟨hw _ q.1, q.2.1, hnm.trans q.2.2⟩) (hw _ o1) (o2 f (List.mem_of_getElem? hf)).2 (v := cv Z.heap.size v) (by rw [cv_narrow, hn]) (by rw [cv_fits]; exact hfi) (g := mkF m pc (L.map (cs Z.heap.size)).toArray ((v :: Value.ref i :: S).map (cv Z.heap.size))) rfl rfl (hb hby hd)
  exact (h hL Z a0 p l e R s m args below meth c' T1 _ cells slots ⟨X1, hx, hZ, hw, hby, hml, hrt, hnm, hlk, hown, e1 ▸ hR.set W1 (CellOk.put (i := i) hKO hw hK hf W1 (hR.2 _ _ hH)), Fr.snoc X1 hFr (Nat.le_add_right _ _), hr⟩).steps st
/-- a field of a boolean, byte, char or short -/
theorem W.putFN {idx i j c n : Nat} {C R0 : String} {fs : List (String × String × String × FieldType)} {vs : List Value} {f : String × String × String × FieldType} {v v' : Value} (hKO : KOk tb K) (hd : decode μ.2.1 pc = .ok (.putfield idx, 3))
    (w : Cond.fieldLink μ.1.cls idx R0 f.2.1 f.2.2.1 ∈ tb) (via : R0 = f.1 ∨ Cond.sameField R0 f.1 f.2.1 f.2.2.1 ∈ tb) (hK : K[c]? = some (C, n, fs)) (hf : fs[j]? = some f)
    (la : Cond.lays C f.1 f.2.1 f.2.2.1 ∈ tb ∨ (Cond.laysFinal C f.1 f.2.1 f.2.2.1 ∈ tb ∧ μ.1.cls = f.1 ∧ μ.1.name = "<init>")) (hn : narrow f.2.2.2 v = v') (hfi : fits f.2.2.2 v' = true) (hH : H[i]? = some (.inl (c, vs)))
    (h : W tb K μ rm (pc + 3) L S (H.set i (.inl (c, vs.set j v'))) Q) : W tb K μ rm pc L (v :: .ref i :: S) H Q := by
  intro hL Z a0 p l e R s m args below meth c' T locs cells slots X
  obtain ⟨X0, hx, hZ, hw, hby, hml, hrt, hnm, hlk, hown, hR, hFr, hr⟩ := X
  have CO := hR.2 _ _ hH
  obtain ⟨C', n', fs', k1, k2, k3, k4⟩ := CO
  cases hK.symm.trans k1
  have hl : j < vs.length := by rw [k2]; exact (List.getElem?_eq_some_iff.mp hf).1
  have F := k4 j f vs[j] hf (List.getElem?_eq_getElem hl)
  obtain ⟨o1, o2, o3⟩ := hKO _ (mem_of_get hK)
  obtain ⟨T1, h1, X1, e1, W1, st⟩ := RoadKit.putFN X0 hx hZ hown (hw _ w) (via_of hw via) rfl F k3 (la.imp (hw _) fun q => ⟨hw _ q.1, q.2.1, hnm.trans q.2.2⟩) (hw _ o1) (o2 f (List.mem_of_getElem? hf)).2 (v := cv Z.heap.size v) (v' := cv Z.heap.size v') (by rw [cv_narrow, hn]) (by rw [cv_fits]; exact hfi) (g := mkF m pc (L.map (cs Z.heap.size)).toArray ((v :: Value.ref i :: S).map (cv Z.heap.size))) rfl rfl (hb hby hd)
  exact (h hL Z a0 p l e R s m args below meth c' T1 _ cells slots ⟨X1, hx, hZ, hw, hby, hml, hrt, hnm, hlk, hown, e1 ▸ hR.set W1 (CellOk.put (i := i) hKO hw hK hf W1 (hR.2 _ _ hH)), Fr.snoc X1 hFr (Nat.le_add_right _ _), hr⟩).steps st
/-- the index j is the natural N -/
abbrev ix (j : Int32) (N : Nat) : Prop := ¬ j < 0 ∧ j.toNatClampNeg = N
theorem ix_ofNat {N : Nat} (h : N < 2 ^ 31) : ix (Int32.ofNat N) N := by
  have e : (Int32.ofNat N).toInt = N := Int32.toInt_ofNat_of_lt h
  refine ⟨?_, ?_⟩
  · rw [Int32.lt_iff_toInt_lt, e]; simp
  · rw [Int32.toNatClampNeg, e]; rfl
theorem inb {cell : Cell} {j : Int32} {N : Nat} {vs : List Value} {k : Nat} (k2 : cell.slots = (vs.map (cv k)).toArray) (hj : ¬ j < 0) (hN : j.toNatClampNeg = N) (hl : N < vs.length) : ¬ (j < 0 ∨ cell.slots.size ≤ j.toNatClampNeg) := by
  rw [k2, hN]; simp; exact ⟨by simpa using hj, hl⟩
/-- room for an object of n slots -/
def nok (rm : Room) (n : Nat) : Bool := Nat.ble 1 rm.cells && (Nat.ble n rm.slots && Nat.ble n 67108864)
theorem nok_spec {rm : Room} {n : Nat} (h : nok rm n = true) : 1 ≤ rm.cells ∧ n ≤ rm.slots ∧ n * 8 ≤ 536870912 := by
  simp only [nok, Bool.and_eq_true, Nat.ble_eq] at h
  omega
theorem W.new {idx c n i : Nat} {C : String} {fs : List (String × String × String × FieldType)} (hKO : KOk tb K) (hd : decode μ.2.1 pc = .ok (.new idx, 3)) (w : Cond.classLink μ.1.cls idx C ∈ tb) (wz : Cond.initialized C ∈ tb) (hK : K[c]? = some (C, n, fs)) (hi : H.length = i) (hr : nok rm n = true)
    (h : W tb K μ ⟨rm.frames, rm.cells - 1, rm.slots - n, rm.locals⟩ (pc + 3) L (.ref i :: S) (H ++ [.inl (c, fs.map fun f => defaultValue f.2.2.2)]) Q) : W tb K μ rm pc L S H Q := by
  intro hL Z a0 p l e R s m args below meth c' T locs cells slots X
  obtain ⟨X0, hx, hZ, hw, hby, hml, hrt, hnm, hlk, hown, hR, hFr, hr1, hr2, hr3, hr4⟩ := X
  obtain ⟨hc, hs, hb'⟩ := nok_spec hr
  obtain ⟨o1, o2, o3⟩ := hKO _ (mem_of_get hK)
  obtain ⟨vm', cC, kC, h1, h2, h3, h4, X', st⟩ := X0.newCold hx hown (mv hZ (hw _ w)) (mv hZ (hw _ (show Cond.instantiable C n ∈ tb from o1))) (mv hZ (hw _ wz)) (g := mkF m pc (L.map (cs Z.heap.size)).toArray (S.map (cv Z.heap.size))) rfl (hb hby hd) (by omega) (by omega)
  rw [hZ.alike.findClass] at h1
  obtain ⟨kZ, z1, -⟩ := Vm.findClass_spec h1
  obtain ⟨k', z2, z3⟩ := hZ.alike.2.2 _ _ z1
  cases h2.symm.trans z2
  have ei : kC.instanceTypes = kZ.instanceTypes := by rw [z3]
  have hN : (T.heap.push { cls := cC, slots := kC.instanceTypes.map defaultValue, vm := .none })[T.heap.size]? = some { cls := cC, slots := kC.instanceTypes.map defaultValue, vm := .none } := by simp
  have ea : Z.heap.size + i = T.heap.size := by rw [hR.1, hi]
  have CO : CellOk Z K (T.heap.push { cls := cC, slots := kC.instanceTypes.map defaultValue, vm := .none }) (Z.heap.size + H.length) (.inl (c, fs.map fun f => defaultValue f.2.2.2)) := by
    refine ⟨C, n, fs, hK, by simp, ⟨_, kZ, by rw [← hR.1]; exact hN, h1, z1, rfl, fun _ => by simp [ei]⟩, fun j f v hf hv => ?_⟩
    have hv' : v = defaultValue f.2.2.2 := by simpa [hf] using hv.symm
    subst hv'
    obtain ⟨f1, f2⟩ := o2 f (List.mem_of_getElem? hf)
    obtain ⟨c1, k1, cf, kf, i1, ff, b1, b2, b3, b4, b5, b6, -⟩ := (FOk.laid ⟨f1, f2⟩ hw).spec
    cases h1.symm.trans b1
    cases z1.symm.trans b2
    rw [cv_default]
    exact ⟨_, cf, kf, i1, ff, by rw [← hR.1]; exact hN, b3, b4, by simp, rfl, b5, by simp [ei, b6, (State.fieldFound?_type b3 f2).2]⟩
  have := h hL Z a0 p l e R s m args below meth c' _ locs (cells + 1) (slots + n) ⟨X', hx, hZ, hw, hby, hml, hrt, hnm, hlk, hown, hR.push CO, hFr, hr1, by show cells + 1 + (rm.cells - 1) ≤ _; omega, by show slots + n + (rm.slots - n) ≤ _; omega, hr4⟩
  refine this.steps fun t ht => st t ?_
  rw [← ea]; exact ht
theorem W.newarray {aty : ArrayType} {ty : FieldType} {N i : Nat} {n : Int32} {d : Value} (hd : decode μ.2.1 pc = .ok (.newarray aty, 2)) (hty : newarray.typeOf aty = ty) (w : Cond.arrayClass ty ∈ tb) (hdv : defaultValue ty = d) (hn : ix n N) (hi : H.length = i) (hr : nok rm N = true)
    (h : W tb K μ ⟨rm.frames, rm.cells - 1, rm.slots - N, rm.locals⟩ (pc + 2) L (.ref i :: S) (H ++ [.inr (ty, List.replicate N d)]) Q) : W tb K μ rm pc L (.int n :: S) H Q := by
  intro hL Z a0 p l e R s m args below meth c' T locs cells slots X
  obtain ⟨X0, hx, hZ, hw, hby, hml, hrt, hnm, hlk, hown, hR, hFr, hr1, hr2, hr3, hr4⟩ := X
  obtain ⟨hn, hN⟩ := hn
  subst hty hdv hN
  obtain ⟨hc, hs, hb'⟩ := nok_spec hr
  have hcb : componentBytes (newarray.typeOf aty) ≤ 8 := by cases aty <;> decide
  obtain ⟨cA, kA, comp, h1, h2, h3, X', st⟩ := X0.newarrayPrim hx (mvA hZ (hw _ w)) (g := mkF m pc (L.map (cs Z.heap.size)).toArray ((Value.int n :: S).map (cv Z.heap.size))) rfl (hb hby hd) (n := n) rfl hn (Nat.le_trans (Nat.mul_le_mul (Nat.le_refl _) hcb) hb') (by omega) (by omega)
  rw [hZ.alike.findClass] at h1
  obtain ⟨kZ, z1, -⟩ := Vm.findClass_spec h1
  obtain ⟨k', z2, z3⟩ := hZ.alike.2.2 _ _ z1
  cases h2.symm.trans z2
  have hN : (T.heap.push { cls := cA, slots := Array.replicate n.toNatClampNeg (defaultValue (newarray.typeOf aty)), vm := .none })[T.heap.size]? = some { cls := cA, slots := Array.replicate n.toNatClampNeg (defaultValue (newarray.typeOf aty)), vm := .none } := by simp
  have ea : Z.heap.size + i = T.heap.size := by rw [hR.1, hi]
  have CO : CellOk Z K (T.heap.push { cls := cA, slots := Array.replicate n.toNatClampNeg (defaultValue (newarray.typeOf aty)), vm := .none }) (Z.heap.size + H.length) (.inr (newarray.typeOf aty, List.replicate n.toNatClampNeg (defaultValue (newarray.typeOf aty)))) := by
    refine ⟨_, ⟨by rw [← hR.1]; exact hN, ⟨by simp, kZ, z1, comp, by rw [← h3, z3]⟩, by simp⟩, by simp [cv_default], fun v hv => ?_⟩
    rw [(List.mem_replicate.mp hv).2]
    cases aty <;> rfl
  have := h hL Z a0 p l e R s m args below meth c' _ locs (cells + 1) (slots + n.toNatClampNeg) ⟨X', hx, hZ, hw, hby, hml, hrt, hnm, hlk, hown, hR.push CO, hFr, hr1, by show cells + 1 + (rm.cells - 1) ≤ _; omega, by show slots + n.toNatClampNeg + (rm.slots - n.toNatClampNeg) ≤ _; omega, hr4⟩
  refine this.steps fun t ht => st t ?_
  rw [← ea]; exact ht
theorem W.arraylength {i : Nat} {ty : FieldType} {vs : List Value} (hd : decode μ.2.1 pc = .ok (.arraylength, 1)) (hH : H[i]? = some (.inr (ty, vs))) (h : W tb K μ rm (pc + 1) L (.int (Int32.ofNat vs.length) :: S) H Q) : W tb K μ rm pc L (.ref i :: S) H Q := by
  intro hL Z a0 p l e R s m args below meth c' T locs cells slots X
  have X' := X
  obtain ⟨X0, hx, hZ, hw, hby, hml, hrt, hnm, hlk, hown, hR, hr⟩ := X
  obtain ⟨cell, A, k2, k3⟩ := hR.2 _ _ hH
  refine (h hL Z a0 p l e R s m args below meth c' T locs cells slots X').steps fun t ht => ?_
  refine X0.arraylength hx A.1 (State.isArrayOf_alike hZ.alike A.2.1) (g := mkF m pc (L.map (cs Z.heap.size)).toArray ((Value.ref i :: S).map (cv Z.heap.size))) rfl rfl (hb hby hd) t ?_
  have e : cell.slots.size.toInt32 = Int32.ofNat vs.length := by rw [k2]; simp
  rw [e]; exact ht
theorem W.xaload {ins : Instr} {ty : FieldType} (hk : (ins = .iaload ∧ ty = .int) ∨ (ins = .laload ∧ ty = .long) ∨ (ins = .baload ∧ (ty = .byte ∨ ty = .boolean))) {i N : Nat} {j : Int32} {vs : List Value} {v : Value} (hd : decode μ.2.1 pc = .ok (ins, 1)) (hH : H[i]? = some (.inr (ty, vs))) (hj : ix j N) (hv : vs[N]? = some v)
    (h : W tb K μ rm (pc + 1) L (v :: S) H Q) : W tb K μ rm pc L (.int j :: .ref i :: S) H Q := by
  intro hL Z a0 p l e R s m args below meth c' T locs cells slots X
  have X' := X
  obtain ⟨X0, hx, hZ, hw, hby, hml, hrt, hnm, hlk, hown, hR, hr⟩ := X
  obtain ⟨cell, A, k2, k3⟩ := hR.2 _ _ hH
  have hN := hj.2
  have hin := inb k2 hj.1 hN (List.getElem?_eq_some_iff.mp hv).1
  have hv' : cell.slots[j.toNatClampNeg]? = some (cv Z.heap.size v) := by rw [k2, hN]; simp [hv]
  refine (h hL Z a0 p l e R s m args below meth c' T locs cells slots X').steps fun t ht => ?_
  rcases hk with ⟨rfl, rfl⟩ | ⟨rfl, rfl⟩ | ⟨rfl, rfl | rfl⟩
  · exact X0.iaload hx A.1 (State.isArrayOf_alike hZ.alike A.2.1) A.2.2 hin hv' (g := mkF m pc (L.map (cs Z.heap.size)).toArray ((Value.int j :: Value.ref i :: S).map (cv Z.heap.size))) rfl rfl (hb hby hd) t ht
  · exact X0.laload hx A.1 (State.isArrayOf_alike hZ.alike A.2.1) A.2.2 hin hv' (g := mkF m pc (L.map (cs Z.heap.size)).toArray ((Value.int j :: Value.ref i :: S).map (cv Z.heap.size))) rfl rfl (hb hby hd) t ht
  · exact X0.baloadBytes hx A.1 (State.isArrayOf_alike hZ.alike A.2.1) A.2.2 hin hv' (g := mkF m pc (L.map (cs Z.heap.size)).toArray ((Value.int j :: Value.ref i :: S).map (cv Z.heap.size))) rfl rfl (hb hby hd) t ht
  · exact X0.baloadBooleans hx A.1 (State.isArrayOf_alike hZ.alike A.2.1) A.2.2 hin hv' (g := mkF m pc (L.map (cs Z.heap.size)).toArray ((Value.int j :: Value.ref i :: S).map (cv Z.heap.size))) rfl rfl (hb hby hd) t ht
theorem W.iastore {i N : Nat} {j x : Int32} {vs : List Value} (hd : decode μ.2.1 pc = .ok (.iastore, 1)) (hH : H[i]? = some (.inr (.int, vs))) (hj : ix j N) (hl : Nat.blt N vs.length = true)
    (h : W tb K μ rm (pc + 1) L S (H.set i (.inr (.int, vs.set N (.int x)))) Q) : W tb K μ rm pc L (.int x :: .int j :: .ref i :: S) H Q := by
  intro hL Z a0 p l e R s m args below meth c' T locs cells slots X
  obtain ⟨X0, hx, hZ, hw, hby, hml, hrt, hnm, hlk, hown, hR, hFr, hr⟩ := X
  have CO := hR.2 _ _ hH
  obtain ⟨cell, A, k2, k3⟩ := CO
  obtain ⟨T1, h1, X1, e1, W1, st⟩ := stI X0 hx hZ rfl A (inb k2 hj.1 hj.2 (Nat.blt_eq.mp hl)) (g := mkF m pc (L.map (cs Z.heap.size)).toArray ((Value.int x :: Value.int j :: Value.ref i :: S).map (cv Z.heap.size))) rfl rfl (hb hby hd)
  rw [hj.2] at W1
  exact (h hL Z a0 p l e R s m args below meth c' T1 _ cells slots ⟨X1, hx, hZ, hw, hby, hml, hrt, hnm, hlk, hown, e1 ▸ hR.set W1 (CellOk.sto (v := .int x) W1 (hR.2 _ _ hH) rfl), Fr.snoc X1 hFr (Nat.le_add_right _ _), hr⟩).steps st
theorem W.lastore {i N : Nat} {j : Int32} {x : Int64} {vs : List Value} (hd : decode μ.2.1 pc = .ok (.lastore, 1)) (hH : H[i]? = some (.inr (.long, vs))) (hj : ix j N) (hl : Nat.blt N vs.length = true)
    (h : W tb K μ rm (pc + 1) L S (H.set i (.inr (.long, vs.set N (.long x)))) Q) : W tb K μ rm pc L (.long x :: .int j :: .ref i :: S) H Q := by
  intro hL Z a0 p l e R s m args below meth c' T locs cells slots X
  obtain ⟨X0, hx, hZ, hw, hby, hml, hrt, hnm, hlk, hown, hR, hFr, hr⟩ := X
  have CO := hR.2 _ _ hH
  obtain ⟨cell, A, k2, k3⟩ := CO
  obtain ⟨T1, h1, X1, e1, W1, st⟩ := stJ X0 hx hZ rfl A (inb k2 hj.1 hj.2 (Nat.blt_eq.mp hl)) (g := mkF m pc (L.map (cs Z.heap.size)).toArray ((Value.long x :: Value.int j :: Value.ref i :: S).map (cv Z.heap.size))) rfl rfl (hb hby hd)
  rw [hj.2] at W1
  exact (h hL Z a0 p l e R s m args below meth c' T1 _ cells slots ⟨X1, hx, hZ, hw, hby, hml, hrt, hnm, hlk, hown, e1 ▸ hR.set W1 (CellOk.sto (v := .long x) W1 (hR.2 _ _ hH) rfl), Fr.snoc X1 hFr (Nat.le_add_right _ _), hr⟩).steps st
theorem W.bastore {i N : Nat} {j x : Int32} {vs : List Value} (hd : decode μ.2.1 pc = .ok (.bastore, 1)) (hH : H[i]? = some (.inr (.byte, vs))) (hj : ix j N) (hl : Nat.blt N vs.length = true)
    (h : W tb K μ rm (pc + 1) L S (H.set i (.inr (.byte, vs.set N (.int x.toInt8.toInt32)))) Q) : W tb K μ rm pc L (.int x :: .int j :: .ref i :: S) H Q := by
  intro hL Z a0 p l e R s m args below meth c' T locs cells slots X
  obtain ⟨X0, hx, hZ, hw, hby, hml, hrt, hnm, hlk, hown, hR, hFr, hr⟩ := X
  have CO := hR.2 _ _ hH
  obtain ⟨cell, A, k2, k3⟩ := CO
  obtain ⟨T1, h1, X1, e1, W1, st⟩ := stB X0 hx hZ rfl A (inb k2 hj.1 hj.2 (Nat.blt_eq.mp hl)) (g := mkF m pc (L.map (cs Z.heap.size)).toArray ((Value.int x :: Value.int j :: Value.ref i :: S).map (cv Z.heap.size))) rfl rfl (hb hby hd)
  rw [hj.2] at W1
  exact (h hL Z a0 p l e R s m args below meth c' T1 _ cells slots ⟨X1, hx, hZ, hw, hby, hml, hrt, hnm, hlk, hown, e1 ▸ hR.set W1 (CellOk.sto (v := .int x.toInt8.toInt32) W1 (hR.2 _ _ hH) (fits_nar_byte x)), Fr.snoc X1 hFr (Nat.le_add_right _ _), hr⟩).steps st
theorem W.bastoreZ {i N : Nat} {j x : Int32} {vs : List Value} (hd : decode μ.2.1 pc = .ok (.bastore, 1)) (hH : H[i]? = some (.inr (.boolean, vs))) (hj : ix j N) (hl : Nat.blt N vs.length = true)
    (h : W tb K μ rm (pc + 1) L S (H.set i (.inr (.boolean, vs.set N (.int (x &&& 1))))) Q) : W tb K μ rm pc L (.int x :: .int j :: .ref i :: S) H Q := by
  intro hL Z a0 p l e R s m args below meth c' T locs cells slots X
  obtain ⟨X0, hx, hZ, hw, hby, hml, hrt, hnm, hlk, hown, hR, hFr, hr⟩ := X
  have CO := hR.2 _ _ hH
  obtain ⟨cell, A, k2, k3⟩ := CO
  obtain ⟨T1, h1, X1, e1, W1, st⟩ := stZ X0 hx hZ rfl A (inb k2 hj.1 hj.2 (Nat.blt_eq.mp hl)) (g := mkF m pc (L.map (cs Z.heap.size)).toArray ((Value.int x :: Value.int j :: Value.ref i :: S).map (cv Z.heap.size))) rfl rfl (hb hby hd)
  rw [hj.2] at W1
  exact (h hL Z a0 p l e R s m args below meth c' T1 _ cells slots ⟨X1, hx, hZ, hw, hby, hml, hrt, hnm, hlk, hown, e1 ▸ hR.set W1 (CellOk.sto (v := .int (x &&& 1)) W1 (hR.2 _ _ hH) (fits_nar_bool x)), Fr.snoc X1 hFr (Nat.le_add_right _ _), hr⟩).steps st
theorem W.ldcInt {idx : Nat} {x : Int32} (hd : decode μ.2.1 pc = .ok (.ldc idx, 2)) (w : Cond.constant μ.1.cls idx x ∈ tb) (h : W tb K μ rm (pc + 2) L (.int x :: S) H Q) : W tb K μ rm pc L S H Q := by
  intro hL Z a0 p l e R s m args below meth c' T locs cells slots X
  have X' := X
  obtain ⟨X0, hx, hZ, hw, hby, hml, hrt, hnm, hlk, hown, hR, hr⟩ := X
  exact (h hL Z a0 p l e R s m args below meth c' T locs cells slots X').steps (X0.ldcInt hx hown (mvT hZ (hw _ w)) (g := mkF m pc (L.map (cs Z.heap.size)).toArray (S.map (cv Z.heap.size))) rfl (hb hby hd))
theorem W.ldcLong {idx : Nat} {x : Int64} (hd : decode μ.2.1 pc = .ok (.ldc2_w idx, 3)) (w : Cond.constantLong μ.1.cls idx x ∈ tb) (h : W tb K μ rm (pc + 3) L (.long x :: S) H Q) : W tb K μ rm pc L S H Q := by
  intro hL Z a0 p l e R s m args below meth c' T locs cells slots X
  have X' := X
  obtain ⟨X0, hx, hZ, hw, hby, hml, hrt, hnm, hlk, hown, hR, hr⟩ := X
  exact (h hL Z a0 p l e R s m args below meth c' T locs cells slots X').steps (X0.ldc2Long hx hown (mvT hZ (hw _ w)) (g := mkF m pc (L.map (cs Z.heap.size)).toArray (S.map (cv Z.heap.size))) rfl (hb hby hd))
end Logic
end Jvm.Own
namespace Jvm.Own
open Sem ClassFile Op Lib Jvm.Stand Jvm.Free Jvm.LawKit Jvm.RoadKit
section Logic
variable {tb : List Cond} {K : KTab} {μ μ' : Mth} {rm rm' : Room} {pc : Nat} {L : List Slot} {S : List Value} {H : AHeap} {Q Q' : Option Value → AHeap → Prop}
theorem W.ret_ (hd : decode μ.2.1 pc = .ok (.return_, 1)) (hr0 : μ.2.2.2 = none) (hQ : Q none H) : W tb K μ rm pc L [] H Q := by
  intro hL Z a0 p l e R s m args below meth c' T locs cells slots X
  obtain ⟨X0, hx, hZ, hw, hby, hml, hrt, hnm, hlk, hown, hR, hFr, hr1, hr2, hr3, hr4⟩ := X
  obtain ⟨fs, hr, hrun, hended, hW, hsame⟩ := X0.leave (v := none) (fun _ => rfl) hlk
  exact ⟨none, H, T, locs, fs, hQ, X0.returnOut hx (hrt.trans hr0) (hb hby hd) hr, hrun, hended, hW, hsame.mono (by omega) (by omega), hFr, hR⟩
theorem W.ireturn {x : Int32} (hd : decode μ.2.1 pc = .ok (.ireturn, 1)) (hr0 : μ.2.2.2 = some .int) (hQ : Q (some (.int x)) H) : W tb K μ rm pc L (.int x :: S) H Q := by
  intro hL Z a0 p l e R s m args below meth c' T locs cells slots X
  obtain ⟨X0, hx, hZ, hw, hby, hml, hrt, hnm, hlk, hown, hR, hFr, hr1, hr2, hr3, hr4⟩ := X
  obtain ⟨fs, hr, hrun, hended, hW, hsame⟩ := X0.leave (v := some (.int x)) (fun h => by rw [hrt, hr0] at h; cases h) hlk
  exact ⟨some (.int x), H, T, locs, fs, hQ, retOut X0 hx (hrt.trans hr0) rfl (Or.inl ⟨rfl, Or.inl rfl, _, rfl⟩) (hb hby hd) hr, hrun, hended, hW, hsame.mono (by omega) (by omega), hFr, hR⟩
theorem W.ireturnN {t : FieldType} {x : Int32} (hd : decode μ.2.1 pc = .ok (.ireturn, 1)) (hr0 : μ.2.2.2 = some t) (ht : t = .boolean ∨ t = .byte ∨ t = .char ∨ t = .short) (hQ : Q (some (.int (nar t x))) H) : W tb K μ rm pc L (.int x :: S) H Q := by
  intro hL Z a0 p l e R s m args below meth c' T locs cells slots X
  obtain ⟨X0, hx, hZ, hw, hby, hml, hrt, hnm, hlk, hown, hR, hFr, hr1, hr2, hr3, hr4⟩ := X
  obtain ⟨fs, hr, hrun, hended, hW, hsame⟩ := X0.leave (v := some (.int (nar t x))) (fun h => by rw [hrt, hr0] at h; cases h) hlk
  exact ⟨some (.int (nar t x)), H, T, locs, fs, hQ, retN X0 hx (hrt.trans hr0) ht (hb hby hd) hr, hrun, hended, hW, hsame.mono (by omega) (by omega), hFr, hR⟩
theorem W.ireturnZ {x : Int32} (hd : decode μ.2.1 pc = .ok (.ireturn, 1)) (hr0 : μ.2.2.2 = some .boolean) (hQ : Q (some (.int (x &&& 1))) H) : W tb K μ rm pc L (.int x :: S) H Q := W.ireturnN hd hr0 (Or.inl rfl) hQ
theorem W.lreturn {x : Int64} (hd : decode μ.2.1 pc = .ok (.lreturn, 1)) (hr0 : μ.2.2.2 = some .long) (hQ : Q (some (.long x)) H) : W tb K μ rm pc L (.long x :: S) H Q := by
  intro hL Z a0 p l e R s m args below meth c' T locs cells slots X
  obtain ⟨X0, hx, hZ, hw, hby, hml, hrt, hnm, hlk, hown, hR, hFr, hr1, hr2, hr3, hr4⟩ := X
  obtain ⟨fs, hr, hrun, hended, hW, hsame⟩ := X0.leave (v := some (.long x)) (fun h => by rw [hrt, hr0] at h; cases h) hlk
  exact ⟨some (.long x), H, T, locs, fs, hQ, retOut X0 hx (hrt.trans hr0) rfl (Or.inr (Or.inl ⟨rfl, rfl, _, rfl⟩)) (hb hby hd) hr, hrun, hended, hW, hsame.mono (by omega) (by omega), hFr, hR⟩
theorem W.areturn {t : FieldType} {v : Value} (hd : decode μ.2.1 pc = .ok (.areturn, 1)) (hr0 : μ.2.2.2 = some t) (ht : t.isReference = true) (hv : v.isRef = true) (hQ : Q (some v) H) : W tb K μ rm pc L (v :: S) H Q := by
  intro hL Z a0 p l e R s m args below meth c' T locs cells slots X
  obtain ⟨X0, hx, hZ, hw, hby, hml, hrt, hnm, hlk, hown, hR, hFr, hr1, hr2, hr3, hr4⟩ := X
  obtain ⟨fs, hr, hrun, hended, hW, hsame⟩ := X0.leave (v := some (cv Z.heap.size v)) (fun h => by rw [hrt, hr0] at h; cases h) hlk
  exact ⟨some v, H, T, locs, fs, hQ, retOut X0 hx (hrt.trans hr0) (by cases v <;> first | (cases t <;> rfl) | cases hv) (Or.inr (Or.inr (Or.inr (Or.inr ⟨rfl, ht, by rw [cv_isRef]; exact hv⟩)))) (hb hby hd) hr, hrun, hended, hW, hsame.mono (by omega) (by omega), hFr, hR⟩
/-- what a call leaves of the room -/
abbrev less (rm rm' : Room) : Room := ⟨rm.frames, rm.cells - rm'.cells, rm.slots - rm'.slots, rm.locals⟩
abbrev wt (S : List Value) : Nat := (S.map fun v => v.category).sum
abbrev plainCls (μ' : Mth) : Prop := μ'.1.cls ≠ "java/lang/invoke/MethodHandle" ∧ μ'.1.cls ≠ "java/lang/invoke/VarHandle"
/-- room for a call: S stays on the stack, n locals -/
def rok (rm rm' : Room) (n : Nat) (S : List Value) : Bool := Nat.ble (rm'.frames + 1) rm.frames && (Nat.ble (wt S + (n + 11) + rm'.locals) rm.locals && (Nat.ble rm'.cells rm.cells && Nat.ble rm'.slots rm.slots))
theorem rok_spec {rm rm' : Room} {n : Nat} {S : List Value} (h : rok rm rm' n S = true) : rm'.frames + 1 ≤ rm.frames ∧ wt S + (n + 11) + rm'.locals ≤ rm.locals ∧ rm'.cells ≤ rm.cells ∧ rm'.slots ≤ rm.slots := by
  simp only [rok, Bool.and_eq_true, Nat.ble_eq] at h
  exact h
/-- room for Object's constructor -/
def iok (rm : Room) (S : List Value) : Bool := Nat.ble 1 rm.frames && Nat.ble (wt S + 12) rm.locals
/-- a callee that answers one value and leaves one heap -/
abbrev Is (v0 : Option Value) (H0 : AHeap) : Option Value → AHeap → Prop := fun v H => v = v0 ∧ H = H0
theorem hs {H : AHeap} {i : Nat} {c c' : ACell} (h : H[i]? = some c) : (H.set i c')[i]? = some c' := List.getElem?_set_self (List.getElem?_eq_some_iff.mp h).1
theorem hn {H : AHeap} {i j : Nat} {c c' : ACell} (h : H[j]? = some c) (ne : i ≠ j) : (H.set i c')[j]? = some c := by rw [List.getElem?_set_ne ne]; exact h
theorem ha {H H' : AHeap} {j : Nat} {c : ACell} (h : H[j]? = some c) : (H ++ H')[j]? = some c := by rw [List.getElem?_append_left (List.getElem?_eq_some_iff.mp h).1]; exact h
theorem back_st (k : Nat) (v : Option Value) (S : List Value) : (v.map (cv k)).toList ++ S.map (cv k) = (v.toList ++ S).map (cv k) := by cases v <;> rfl
theorem W.callS {idx : Nat} {as : List Value} {S0 : List Value} {ps : List FieldType} {r : Option FieldType} (hd : decode μ.2.1 pc = .ok (.invokestatic idx, 3)) (w1 : Cond.methodLink μ.1.cls idx μ'.1 ∈ tb) (w2 : Cond.static μ'.1 ∈ tb) (w3 : Cond.initialized μ'.1.cls ∈ tb) (w4 : Cond.code μ'.1 μ'.2.1 μ'.2.2.1 μ'.2.2.2 ∈ tb) (hy : plainCls μ')
    (hp : parseMethodDescriptor μ'.1.desc = some ⟨ps, r⟩) (hlen : as.length = ps.length) (hS : S0 = as.reverse ++ S) (hM : M tb K μ' rm' as H Q') (hr : rok rm rm' μ'.2.2.1 S = true)
    (h : ∀ v H', Q' v H' → W tb K μ (less rm rm') (pc + 3) L (v.toList ++ S) H' Q) : W tb K μ rm pc L S0 H Q := by
  intro hL Z a0 p l e R s m args below meth c' T locs cells slots X
  obtain ⟨X0, hx, hZ, hw, hby, hml, hrt, hnm, hlk, hown, hR, hFr, hr1, hr2, hr3, hr4⟩ := X
  obtain ⟨hf, hl, hc, hs⟩ := rok_spec hr
  obtain ⟨_, vm1, ⟨T1, L1, k1, n1⟩, hW1, X1, ⟨Lc, ⟨v', H', rfl, hR', hq', hFr'⟩, l1, y1, z1⟩, st⟩ := Jvm.LawKit.callS X0 hx (y := μ'.1) hown (mvT hZ (hw _ w1)) (mvT hZ (hw _ w2)) (mvT hZ (hw _ w3)) (mvT hZ (hw _ w4)) hy (backOf (R := R) (rm := rm') (h := T.heap) (Q := fun v h L => ∃ v' H', v = Option.map (cv Z.heap.size) v' ∧ Rel Z K h H' ∧ Q' v' H' ∧ Fr Z.heap.size L) (W := wt S) (hM Z a0 hw l T.heap [] hR) hZ (hw _ w4) (hw _ w3) (by omega) (by omega))
    (g := mkF m pc (L.map (cs Z.heap.size)).toArray (S0.map (cv Z.heap.size))) rfl (by simp [hL, hml]) (argsL := as.map (cv Z.heap.size)) (rest := S.map (cv Z.heap.size)) (lenOf hp (by simpa using hlen)) (by rw [hS]; simp) (by show 2 * 0 + _ ≤ _; rw [cat_map]; exact Nat.le_of_eq (by simp)) (hb hby hd) (fun _ _ => ⟨rfl, rfl, by show cells + _ ≤ _; omega, by show slots + _ ≤ _; omega⟩)
  dsimp only [Pt.U, Pt.locs, Pt.cells, Pt.slots] at X1 l1 y1 z1 st hR'
  subst l1 y1 z1
  rw [back_st] at st
  exact (h v' H' hq' hL Z a0 p l e R s m args below meth c' T1 _ _ _ ⟨X1, hx, hZ, hw, hby, hml, hrt, hnm, hlk, hown, hR', Fr.app hFr hFr', hr1, by show cells + _ + (rm.cells - _) ≤ _; omega, by show slots + _ + (rm.slots - _) ≤ _; omega, hr4⟩).steps st
theorem W.callI {idx i : Nat} {as : List Value} {S0 : List Value} {ps : List FieldType} {r : Option FieldType} (hd : decode μ.2.1 pc = .ok (.invokespecial idx, 3)) (hn : μ'.1.name = "<init>") (hr0 : μ'.2.2.2 = none) (w1 : Cond.methodLink μ.1.cls idx μ'.1 ∈ tb) (w2 : Cond.instanceMethod μ'.1 ∈ tb) (w3 : Cond.initialized μ'.1.cls ∈ tb) (w4 : Cond.code μ'.1 μ'.2.1 μ'.2.2.1 μ'.2.2.2 ∈ tb) (hy : plainCls μ')
    (hp : parseMethodDescriptor μ'.1.desc = some ⟨ps, r⟩) (hlen : as.length = ps.length) (hS : S0 = as.reverse ++ .ref i :: S) (hM : M tb K μ' rm' (.ref i :: as) H Q') (hr : rok rm rm' μ'.2.2.1 S = true)
    (h : ∀ v H', Q' v H' → W tb K μ (less rm rm') (pc + 3) L (v.toList ++ S) H' Q) : W tb K μ rm pc L S0 H Q := by
  intro hL Z a0 p l e R s m args below meth c' T locs cells slots X
  obtain ⟨X0, hx, hZ, hw, hby, hml, hrt, hnm, hlk, hown, hR, hFr, hr1, hr2, hr3, hr4⟩ := X
  obtain ⟨hf, hl, hc, hs⟩ := rok_spec hr
  have w4' : (Cond.code μ'.1 μ'.2.1 μ'.2.2.1 none).before a0 Z = true := by have q := hw _ w4; rw [hr0] at q; exact q
  obtain ⟨_, vm1, ⟨T1, L1, k1, n1⟩, hW1, X1, ⟨Lc, ⟨v', H', rfl, hR', hq', hFr'⟩, l1, y1, z1⟩, st⟩ := X0.specialBack hx (y := μ'.1) hn hown (mvT hZ (hw _ w1)) (mvT hZ (hw _ w2)) (mvT hZ w4') hy (backOf (R := R) (rm := rm') (h := T.heap) (Q := fun v h L => ∃ v' H', v = Option.map (cv Z.heap.size) v' ∧ Rel Z K h H' ∧ Q' v' H' ∧ Fr Z.heap.size L) (W := wt S) (hM Z a0 hw l T.heap [] hR) hZ (hw _ w4) (hw _ w3) (by omega) (by omega))
    (g := mkF m pc (L.map (cs Z.heap.size)).toArray (S0.map (cv Z.heap.size))) rfl (by simp [hL, hml]) (Steps.refl _) (a := Z.heap.size + i) (argsL := as.map (cv Z.heap.size)) (rest := S.map (cv Z.heap.size)) (lenOf hp (by simpa using hlen)) (by rw [hS]; simp [cv]) (by show 2 * 0 + _ ≤ _; rw [cat_map]; exact Nat.le_of_eq (by simp)) (hb hby hd) (fun _ _ => ⟨rfl, rfl, by show cells + _ ≤ _; omega, by show slots + _ ≤ _; omega⟩)
  dsimp only [Pt.U, Pt.locs, Pt.cells, Pt.slots] at X1 l1 y1 z1 st hR'
  subst l1 y1 z1
  rw [back_st] at st
  exact (h v' H' hq' hL Z a0 p l e R s m args below meth c' T1 _ _ _ ⟨X1, hx, hZ, hw, hby, hml, hrt, hnm, hlk, hown, hR', Fr.app hFr hFr', hr1, by show cells + _ + (rm.cells - _) ≤ _; omega, by show slots + _ + (rm.slots - _) ≤ _; omega, hr4⟩).steps (fun t ht => st.trans ht)
/-- the opcode that returns nothing -/
def opReturn : UInt8 := 177
/-- java/lang/Object's constructor -/
theorem W.initO {idx i : Nat} (hd : decode μ.2.1 pc = .ok (.invokespecial idx, 3)) (w1 : Cond.methodLink μ.1.cls idx Lib.objectInit ∈ tb) (w2 : Cond.instanceMethod Lib.objectInit ∈ tb) (w3 : Cond.code Lib.objectInit ⟨#[opReturn]⟩ 1 none ∈ tb) (hr : iok rm S = true)
    (h : W tb K μ rm (pc + 3) L S H Q) : W tb K μ rm pc L (.ref i :: S) H Q := by
  intro hL Z a0 p l e R s m args below meth c' T locs cells slots X
  obtain ⟨X0, hx, hZ, hw, hby, hml, hrt, hnm, hlk, hown, hR, hFr, hr1, hr2, hr3, hr4⟩ := X
  simp only [iok, Bool.and_eq_true, Nat.ble_eq] at hr
  obtain ⟨hf, hl⟩ := hr
  obtain ⟨T1, X1, e1, st⟩ := RoadKit.initO X0 hx hZ hown (hw _ w1) (hw _ w2) (hw _ w3) rfl (g := mkF m pc (L.map (cs Z.heap.size)).toArray ((Value.ref i :: S).map (cv Z.heap.size))) rfl (by simp [hL, hml]) rfl (hb hby hd) (by omega) (W := wt S) (by show 2 * 0 + _ ≤ _; rw [cat_map]; exact Nat.le_of_eq (by simp)) (by omega)
  exact (h hL Z a0 p l e R s m args below meth c' T1 locs cells slots ⟨X1, hx, hZ, hw, hby, hml, hrt, hnm, hlk, hown, e1 ▸ hR, hFr, hr1, hr2, hr3, hr4⟩).steps st
theorem W.callV {idx i c n : Nat} {C : String} {fs : List (String × String × String × FieldType)} {vs : List Value} {y : MethodName} {as : List Value} {S0 : List Value} {ps : List FieldType} {r : Option FieldType} (hd : decode μ.2.1 pc = .ok (.invokevirtual idx, 3)) (w1 : Cond.methodLink μ.1.cls idx y ∈ tb) (w2 : Cond.declares y ∈ tb) (w3 : Cond.selects C y μ'.1 ∈ tb) (hnf : y = μ'.1 ∨ ∃ q ∈ K, q.1 = y.cls) (hKO : KOk tb K)
    (w4 : Cond.instanceMethod μ'.1 ∈ tb) (w5 : Cond.initialized μ'.1.cls ∈ tb) (w6 : Cond.code μ'.1 μ'.2.1 μ'.2.2.1 μ'.2.2.2 ∈ tb) (hy : y.cls ≠ "java/lang/invoke/MethodHandle" ∧ y.cls ≠ "java/lang/invoke/VarHandle") (hK : K[c]? = some (C, n, fs)) (hp : parseMethodDescriptor y.desc = some ⟨ps, r⟩) (hlen : as.length = ps.length) (hS : S0 = as.reverse ++ .ref i :: S)
    (hH : H[i]? = some (.inl (c, vs))) (hM : M tb K μ' rm' (.ref i :: as) H Q') (hr : rok rm rm' μ'.2.2.1 S = true)
    (h : ∀ v H', Q' v H' → W tb K μ (less rm rm') (pc + 3) L (v.toList ++ S) H' Q) : W tb K μ rm pc L S0 H Q := by
  intro hL Z a0 p l e R s m args below meth c' T locs cells slots X
  obtain ⟨X0, hx, hZ, hw, hby, hml, hrt, hnm, hlk, hown, hR, hFr, hr1, hr2, hr3, hr4⟩ := X
  obtain ⟨hf, hl, hc, hs⟩ := rok_spec hr
  obtain ⟨C', n', fs', q1, q2, q3, q4⟩ := hR.2 _ _ hH
  cases hK.symm.trans q1
  obtain ⟨cB, kB, b1, b2, b3⟩ := isOf (T := T) hZ rfl q3
  have nf : NotFace s y := by
    rcases hnf with rfl | ⟨q, hq, hqc⟩
    · exact notFace_of_selects (args := #[]) (mvT hZ (hw _ w3))
    · intro r0 h0
      have g1 := findClass_of_methodNamed h0
      obtain ⟨c1, k1, i1, i2, i3, i4, -⟩ := Cond.instantiable_spec (args := #[]) (s := s) (mv hZ (hw _ (hKO q hq).1))
      rw [hqc] at i1
      cases g1.symm.trans i1
      exact ⟨k1, i2, by simp only [Bool.or_eq_false_iff] at i4; exact i4.1⟩
  obtain ⟨_, vm1, ⟨T1, L1, k1, n1⟩, hW1, X1, ⟨Lc, ⟨v', H', rfl, hR', hq', hFr'⟩, l1, y1, z1⟩, st⟩ := X0.virtualBack hx (y := y) (z := μ'.1) hown (mvT hZ (hw _ w1)) (mvT hZ (hw _ w2)) nf (mvT hZ (hw _ w3)) (mvT hZ (hw _ w4)) hy (backOf (R := R) (rm := rm') (h := T.heap) (Q := fun v h L => ∃ v' H', v = Option.map (cv Z.heap.size) v' ∧ Rel Z K h H' ∧ Q' v' H' ∧ Fr Z.heap.size L) (W := wt S) (hM Z a0 hw l T.heap [] hR) hZ (hw _ w6) (hw _ w5) (by omega) (by omega)) b1 b3
    (g := mkF m pc (L.map (cs Z.heap.size)).toArray (S0.map (cv Z.heap.size))) rfl (by simp [hL, hml]) (Steps.refl _) (argsL := as.map (cv Z.heap.size)) (rest := S.map (cv Z.heap.size)) (lenOf hp (by simpa using hlen)) (by rw [hS]; simp [cv]) (by show 2 * 0 + _ ≤ _; rw [cat_map]; exact Nat.le_of_eq (by simp)) (hb hby hd) (fun _ _ => ⟨rfl, rfl, by show cells + _ ≤ _; omega, by show slots + _ ≤ _; omega⟩)
  dsimp only [Pt.U, Pt.locs, Pt.cells, Pt.slots] at X1 l1 y1 z1 st hR'
  subst l1 y1 z1
  rw [back_st] at st
  exact (h v' H' hq' hL Z a0 p l e R s m args below meth c' T1 _ _ _ ⟨X1, hx, hZ, hw, hby, hml, hrt, hnm, hlk, hown, hR', Fr.app hFr hFr', hr1, by show cells + _ + (rm.cells - _) ≤ _; omega, by show slots + _ + (rm.slots - _) ≤ _; omega, hr4⟩).steps (fun t ht => st.trans ht)
/-- a private method, by invokevirtual -/
theorem W.callP {idx i c n : Nat} {C : String} {fs : List (String × String × String × FieldType)} {vs : List Value} {as : List Value} {S0 : List Value} {ps : List FieldType} {r : Option FieldType} (hd : decode μ.2.1 pc = .ok (.invokevirtual idx, 3)) (w1 : Cond.methodLink μ.1.cls idx μ'.1 ∈ tb) (w2 : Cond.privateMethod μ'.1 ∈ tb) (hKO : KOk tb K)
    (w4 : Cond.instanceMethod μ'.1 ∈ tb) (w5 : Cond.initialized μ'.1.cls ∈ tb) (w6 : Cond.code μ'.1 μ'.2.1 μ'.2.2.1 μ'.2.2.2 ∈ tb) (hy : plainCls μ') (hK : K[c]? = some (C, n, fs)) (hC : C = μ'.1.cls) (hp : parseMethodDescriptor μ'.1.desc = some ⟨ps, r⟩) (hlen : as.length = ps.length) (hS : S0 = as.reverse ++ .ref i :: S)
    (hH : H[i]? = some (.inl (c, vs))) (hM : M tb K μ' rm' (.ref i :: as) H Q') (hr : rok rm rm' μ'.2.2.1 S = true)
    (h : ∀ v H', Q' v H' → W tb K μ (less rm rm') (pc + 3) L (v.toList ++ S) H' Q) : W tb K μ rm pc L S0 H Q := by
  intro hL Z a0 p l e R s m args below meth c' T locs cells slots X
  obtain ⟨X0, hx, hZ, hw, hby, hml, hrt, hnm, hlk, hown, hR, hFr, hr1, hr2, hr3, hr4⟩ := X
  obtain ⟨hf, hl, hc, hs⟩ := rok_spec hr
  obtain ⟨C', n', fs', q1, q2, q3, q4⟩ := hR.2 _ _ hH
  cases hK.symm.trans q1
  obtain ⟨cell, c1, c2⟩ := q3.cell
  obtain ⟨mk, methM, m1, m2, m3, m4⟩ := Cond.instanceMethod_spec (args := args) (mv hZ (hw _ w4))
  obtain ⟨methM', cM, hmethM', -, -, -, -, -, -, hsigM⟩ := Cond.code_spec m1 (mv (args := args) hZ (hw _ w6))
  cases m2.symm.trans hmethM'
  obtain ⟨cc, kk, i1, i2, i3, i4, -⟩ := Cond.instantiable_spec (args := args) (s := s) (mv hZ (hw _ (hKO _ (mem_of_get hK)).1))
  have g1 := findClass_of_methodNamed m1
  rw [← hC] at g1
  cases g1.symm.trans i1
  have hni : kk.isInterface = false := by simp only [Bool.or_eq_false_iff] at i4; exact i4.1
  have hpriv : s.PrivateAt μ'.1 := Cond.privateMethod_at (mvP hZ (hw _ w2) (args := #[]))
  have hsel : selectMethod e.platform s.vm cell.cls mk = .method mk := selectMethod_private m2 (hpriv mk methM m1 m2)
  obtain ⟨vm1, X1', st1⟩ := X0.invokevirtual hx hown (mvT hZ (hw _ w1)) m1 m2 m3 i2 hni hy (a := Z.heap.size + i) (cell := cell) c1 c2 hsel m2 m4 i2 hni (g := mkF m pc (L.map (cs Z.heap.size)).toArray (S0.map (cv Z.heap.size))) rfl (argsL := as.map (cv Z.heap.size)) (rest := S.map (cv Z.heap.size)) (lenOf hp (by simpa using hlen) _ hsigM) (by rw [hS]; simp [cv]) (hb hby hd)
  obtain ⟨_, ⟨T1, L1, k1, n1⟩, X1, ⟨Lc, ⟨v', H', rfl, hR', hq', hFr'⟩, l1, y1, z1⟩, st⟩ := (backOf (R := R) (rm := rm') (h := T.heap) (Q := fun v h L => ∃ v' H', v = Option.map (cv Z.heap.size) v' ∧ Rel Z K h H' ∧ Q' v' H' ∧ Fr Z.heap.size L) (W := wt S) (hM Z a0 hw l T.heap [] hR) hZ (hw _ w6) (hw _ w5) (by omega) (by omega)) m meth c' ⟨T.setVm vm1, locs, cells, slots⟩ (mkF m pc (L.map (cs Z.heap.size)).toArray (S.map (cv Z.heap.size))) (.invokevirtual idx) mk (.ref (Z.heap.size + i) :: as.map (cv Z.heap.size)).toArray X1' rfl (by simp [hL, hml]) (hb hby hd) (by show 2 * 0 + _ ≤ _; rw [cat_map]; exact Nat.le_of_eq (by simp)) (X1'.named m1) ⟨rfl, rfl, by show cells + _ ≤ _; omega, by show slots + _ ≤ _; omega⟩
  dsimp only [Pt.U, Pt.locs, Pt.cells, Pt.slots] at X1 l1 y1 z1 st hR'
  subst l1 y1 z1
  rw [back_st] at st
  exact (h v' H' hq' hL Z a0 p l e R s m args below meth c' T1 _ _ _ ⟨X1, hx, hZ, hw, hby, hml, hrt, hnm, hlk, hown, hR', Fr.app hFr hFr', hr1, by show cells + _ + (rm.cells - _) ≤ _; omega, by show slots + _ + (rm.slots - _) ≤ _; omega, hr4⟩).steps (fun t ht => (st1 _ fun acts => by rw [doInvoke_state]; exact Steps.refl _).trans (st.trans ht))
/-- the locals at the entry -/
def ent : List Value → List Slot
  | [] => []
  | v :: r => if v.category = 2 then .val v :: .second :: ent r else .val v :: ent r
theorem ent_map (k : Nat) (as : List Value) : ent (as.map (cv k)) = (ent as).map (cs k) := by
  induction as with
  | nil => rfl
  | cons v r ih => by_cases h : v.category = 2 <;> simp [ent, h, cv_cat, ih, cs]
theorem fold_ent (as : List Value) : ∀ acc : Array Slot, as.foldl (fun acc v => if v.category = 2 then (acc.push (.val v)).push .second else acc.push (.val v)) acc = acc ++ (ent as).toArray := by
  induction as with
  | nil => intro acc; simp [ent]
  | cons v r ih => intro acc; by_cases h : v.category = 2 <;> simp [ent, h, ih]
theorem locals_of (k n : Nat) (as : List Value) : argsToLocals (as.map (cv k)).toArray n = ((ent as ++ List.replicate (n - (ent as).length) Slot.unset).map (cs k)).toArray := by
  have h : (as.map (cv k)).toArray.foldl (fun (acc : Array Slot) v => if v.category = 2 then (acc.push (.val v)).push .second else acc.push (.val v)) #[] = ((ent as).map (cs k)).toArray := by
    rw [List.foldl_toArray, fold_ent, ent_map]; simp
  simp only [argsToLocals]
  rw [h]
  simp [cs]
theorem M.of {as : List Value} (hn : plainFor μ.1 = true) (hl : ent as ++ List.replicate (μ.2.2.1 - (ent as).length) .unset = L) (hl' : L.length = μ.2.2.1) (h : W tb K μ rm 0 L [] H Q) : M tb K μ rm as H Q := by
  intro Z a0 hw l h0 ws hR
  refine MetFree.of_bodySF hn hisR ?_
  intro p e s m args below meth c s₁ Bd hml0 hP hK
  obtain ⟨rfl, hZ, hh⟩ := hP
  have e0 : s₁.heap = h0 := by rw [← hh, Bd.state]; rfl
  obtain ⟨v, H', T, locs, fs, hq, st, hrun, hended, hW, hsame, hFr, hR'⟩ := h hl' Z a0 p l e rm s m _ below meth c s₁ [] 0 0 ⟨Stand.of_body Bd, Bd.exec, hZ, hw, Bd.bytes, hml0, Bd.returns, (name_of_methodNamed Bd.named Bd.method).1, Bd.notSynchronized, findClass_of_methodNamed Bd.named, e0 ▸ hR, Fr.nil _, Nat.le_refl _, Nat.le_of_eq (Nat.zero_add _), Nat.le_of_eq (Nat.zero_add _), Nat.le_refl _⟩
  have q : entryFrame m (as.map (cv Z.heap.size)).toArray μ.2.2.1 = mkF m 0 (L.map (cs Z.heap.size)).toArray [] := by
    rw [← hl, entryFrame, locals_of]
  exact ⟨_, _, castTop q st, hrun, hended, _, locs, rfl, ⟨v, H', rfl, hR', hq, hFr⟩, ⟨_, rfl⟩, hW, hsame⟩
end Logic
end Jvm.Own
namespace Jvm.Pilot.@@N@@
open Jvm Jvm.ClassFile Sem Op Lib Jvm.Free Jvm.Stand Jvm.LawKit Jvm.RoadKit Jvm.Own Bundle Jvm.Pilot.@@N@@.Jvm.D
/-! PRINTED BY gen.py: the classes, the methods, one lemma a site -/
def KT : KTab := [("com/example/chainwright/chainwright/core/StageQueue", 2, [("com/example/chainwright/chainwright/core/StageQueue", "heap", "[J", (.array .long)), ("com/example/chainwright/chainwright/core/StageQueue", "size", "I", .int)])]
theorem kt : KOk tables_1 KT := (KOk.cons (List.mem_of_getElem? (i := 10) rfl) (fokS ⟨Or.inl (List.mem_of_getElem? (i := 19) rfl), by decide⟩ (fokS ⟨Or.inl (List.mem_of_getElem? (i := 33) rfl), by decide⟩ fok0)) (by decide) KOk.nil)
abbrev μ0 : Mth := (x, code, 28, ret)
abbrev W0 := W tables_1 KT μ0
abbrev M0 := M tables_1 KT μ0
theorem pf0 : plainFor μ0.1 = true := by first | (refine plainFor_of_name ?_; simp [plainName, overriddenIn, x]; done) | decide +kernel
theorem pd0 : parseMethodDescriptor "(JJJJJI)Z" = some ⟨[.long, .long, .long, .long, .long, .int], some .boolean⟩ := by decide +kernel
abbrev μ1 : Mth := (⟨"com/example/chainwright/chainwright/core/StageQueuePollPinLaw", "key", "(JII)J"⟩, method_2_code, 6, some .long)
abbrev W1 := W tables_1 KT μ1
abbrev M1 := M tables_1 KT μ1
theorem pf1 : plainFor μ1.1 = true := by first | (refine plainFor_of_name ?_; simp [plainName, overriddenIn, x]; done) | decide +kernel
theorem pd1 : parseMethodDescriptor "(JII)J" = some ⟨[.long, .int, .int], some .long⟩ := by decide +kernel
abbrev μ2 : Mth := (⟨"com/example/chainwright/chainwright/core/StageQueuePollPinLaw", "cs", "([JII)V"⟩, method_5_code, 5, none)
abbrev W2 := W tables_1 KT μ2
abbrev M2 := M tables_1 KT μ2
theorem pf2 : plainFor μ2.1 = true := by first | (refine plainFor_of_name ?_; simp [plainName, overriddenIn, x]; done) | decide +kernel
theorem pd2 : parseMethodDescriptor "([JII)V" = some ⟨[(.array .long), .int, .int], none⟩ := by decide +kernel
abbrev μ3 : Mth := (⟨"com/example/chainwright/chainwright/core/StageQueue", "<init>", "()V"⟩, prog_35_method_1_code, 1, none)
abbrev W3 := W tables_1 KT μ3
abbrev M3 := M tables_1 KT μ3
theorem pf3 : plainFor μ3.1 = true := by first | (refine plainFor_of_name ?_; simp [plainName, overriddenIn, x]; done) | decide +kernel
theorem pd3 : parseMethodDescriptor "()V" = some ⟨[], none⟩ := by decide +kernel
abbrev μ4 : Mth := (⟨"com/example/chainwright/chainwright/core/StageQueuePollPinLaw", "stageOf", "(J)I"⟩, method_3_code, 2, some .int)
abbrev W4 := W tables_1 KT μ4
abbrev M4 := M tables_1 KT μ4
theorem pf4 : plainFor μ4.1 = true := by first | (refine plainFor_of_name ?_; simp [plainName, overriddenIn, x]; done) | decide +kernel
theorem pd4 : parseMethodDescriptor "(J)I" = some ⟨[.long], some .int⟩ := by decide +kernel
abbrev μ5 : Mth := (⟨"com/example/chainwright/chainwright/core/StageQueuePollPinLaw", "serviceOf", "(J)I"⟩, method_4_code, 2, some .int)
abbrev W5 := W tables_1 KT μ5
abbrev M5 := M tables_1 KT μ5
theorem pf5 : plainFor μ5.1 = true := by first | (refine plainFor_of_name ?_; simp [plainName, overriddenIn, x]; done) | decide +kernel
abbrev μ6 : Mth := (⟨"com/example/chainwright/chainwright/core/StageQueue", "add", "(II)V"⟩, prog_35_method_2_code, 6, none)
abbrev W6 := W tables_1 KT μ6
abbrev M6 := M tables_1 KT μ6
theorem pf6 : plainFor μ6.1 = true := by first | (refine plainFor_of_name ?_; simp [plainName, overriddenIn, x]; done) | decide +kernel
theorem pd5 : parseMethodDescriptor "(II)V" = some ⟨[.int, .int], none⟩ := by decide +kernel
abbrev μ7 : Mth := (⟨"com/example/chainwright/chainwright/core/StageQueue", "poll", "()I"⟩, prog_35_method_5_code, 6, some .int)
abbrev W7 := W tables_1 KT μ7
abbrev M7 := M tables_1 KT μ7
theorem pf7 : plainFor μ7.1 = true := by first | (refine plainFor_of_name ?_; simp [plainName, overriddenIn, x]; done) | decide +kernel
theorem pd6 : parseMethodDescriptor "()I" = some ⟨[], some .int⟩ := by decide +kernel
abbrev μ8 : Mth := (⟨"com/example/chainwright/chainwright/core/StageQueue", "isEmpty", "()Z"⟩, prog_35_method_3_code, 1, some .boolean)
abbrev W8 := W tables_1 KT μ8
abbrev M8 := M tables_1 KT μ8
theorem pf8 : plainFor μ8.1 = true := by first | (refine plainFor_of_name ?_; simp [plainName, overriddenIn, x]; done) | decide +kernel
theorem pd7 : parseMethodDescriptor "()Z" = some ⟨[], some .boolean⟩ := by decide +kernel
theorem e0 {rm : Room} {H : AHeap} {Q : Option Value → AHeap → Prop} {a0 : Int64} {a1 : Int64} {a2 : Int64} {a3 : Int64} {a4 : Int64} {a5 : Int32} (h : W0 rm 0 [.val (.long a0), .second, .val (.long a1), .second, .val (.long a2), .second, .val (.long a3), .second, .val (.long a4), .second, .val (.int a5), .unset, .unset, .unset, .unset, .unset, .unset, .unset, .unset, .unset, .unset, .unset, .unset, .unset, .unset, .unset, .unset, .unset] [] H Q) : M0 rm [.long a0, .long a1, .long a2, .long a3, .long a4, .int a5] H Q := M.of pf0 rfl rfl h
theorem e0L {rm : Room} {H : AHeap} {Q : Option Value → AHeap → Prop} {L : List Slot} {as : List Value} (h : W0 rm 0 L [] H Q) (hl : ent as ++ List.replicate (28 - (ent as).length) .unset = L := by rfl) (hn : L.length = 28 := by rfl) : M0 rm as H Q := M.of pf0 hl hn h
theorem s0_0 {rm : Room} {S : List Value} {H : AHeap} {Q : Option Value → AHeap → Prop} {l1 l2 l3 l4 l5 l6 l7 l8 l9 l10 l11 l12 l13 l14 l15 l16 l17 l18 l19 l20 l21 l22 l23 l24 l25 l26 l27 : Slot} {x : Int64} (h : W0 rm 1 [.val (.long x), l1, l2, l3, l4, l5, l6, l7, l8, l9, l10, l11, l12, l13, l14, l15, l16, l17, l18, l19, l20, l21, l22, l23, l24, l25, l26, l27] (.long x :: S) (H) Q) : W0 rm 0 [.val (.long x), l1, l2, l3, l4, l5, l6, l7, l8, l9, l10, l11, l12, l13, l14, l15, l16, l17, l18, l19, l20, l21, l22, l23, l24, l25, l26, l27] (S) H Q := W.lload_n at_0 rfl h
theorem s0_1 {rm : Room} {S : List Value} {H : AHeap} {Q : Option Value → AHeap → Prop} {l0 l1 l2 l3 l4 l5 l6 l7 l8 l9 l11 l12 l13 l14 l15 l16 l17 l18 l19 l20 l21 l22 l23 l24 l25 l26 l27 : Slot} {x : Int32} (h : W0 rm 3 [l0, l1, l2, l3, l4, l5, l6, l7, l8, l9, .val (.int x), l11, l12, l13, l14, l15, l16, l17, l18, l19, l20, l21, l22, l23, l24, l25, l26, l27] (.int x :: S) (H) Q) : W0 rm 1 [l0, l1, l2, l3, l4, l5, l6, l7, l8, l9, .val (.int x), l11, l12, l13, l14, l15, l16, l17, l18, l19, l20, l21, l22, l23, l24, l25, l26, l27] (S) H Q := W.iload at_1 rfl h
theorem s0_3 {rm : Room} {S : List Value} {H : AHeap} {Q : Option Value → AHeap → Prop} {l0 l1 l2 l3 l4 l5 l6 l7 l8 l9 l10 l11 l12 l13 l14 l15 l16 l17 l18 l19 l20 l21 l22 l23 l24 l25 l26 l27 : Slot}  (h : W0 rm 4 [l0, l1, l2, l3, l4, l5, l6, l7, l8, l9, l10, l11, l12, l13, l14, l15, l16, l17, l18, l19, l20, l21, l22, l23, l24, l25, l26, l27] (.int 0 :: S) (H) Q) : W0 rm 3 [l0, l1, l2, l3, l4, l5, l6, l7, l8, l9, l10, l11, l12, l13, l14, l15, l16, l17, l18, l19, l20, l21, l22, l23, l24, l25, l26, l27] (S) H Q := W.iconst' at_3 (by decide) h
theorem s0_4 {rm : Room} {S : List Value} {H : AHeap} {Q : Option Value → AHeap → Prop} {l0 l1 l2 l3 l4 l5 l6 l7 l8 l9 l10 l11 l12 l13 l14 l15 l16 l17 l18 l19 l20 l21 l22 l23 l24 l25 l26 l27 : Slot} {rm' : Room} {H' : AHeap} {a0 : Int64} {a1 : Int32} {a2 : Int32} {r : Int64} (hM : M1 rm' [.long a0, .int a1, .int a2] H (Is (some (.long r)) H')) (hr : rok rm rm' 6 S = true) (h : W0 (less rm rm') 7 [l0, l1, l2, l3, l4, l5, l6, l7, l8, l9, l10, l11, l12, l13, l14, l15, l16, l17, l18, l19, l20, l21, l22, l23, l24, l25, l26, l27] (.long r :: S) H' Q) : W0 rm 4 [l0, l1, l2, l3, l4, l5, l6, l7, l8, l9, l10, l11, l12, l13, l14, l15, l16, l17, l18, l19, l20, l21, l22, l23, l24, l25, l26, l27] (.int a2 :: .int a1 :: .long a0 :: S) H Q := W.callS (S := S) (as := [.long a0, .int a1, .int a2]) (rm' := rm') at_4 (List.mem_of_getElem? (i := 0) rfl) (List.mem_of_getElem? (i := 1) rfl) (List.mem_of_getElem? (i := 2) rfl) (List.mem_of_getElem? (i := 3) rfl) (by decide) pd1 rfl rfl hM hr (fun _ _ q => by obtain ⟨rfl, rfl⟩ := q; exact h)
theorem s0_4q {rm : Room} {S : List Value} {H : AHeap} {Q : Option Value → AHeap → Prop} {l0 l1 l2 l3 l4 l5 l6 l7 l8 l9 l10 l11 l12 l13 l14 l15 l16 l17 l18 l19 l20 l21 l22 l23 l24 l25 l26 l27 : Slot} {rm' : Room} {Q' : Option Value → AHeap → Prop} {a0 a1 a2 : Value} (hM : M1 rm' [a0, a1, a2] H Q') (hr : rok rm rm' 6 S = true) (h : ∀ v H', Q' v H' → W0 (less rm rm') 7 [l0, l1, l2, l3, l4, l5, l6, l7, l8, l9, l10, l11, l12, l13, l14, l15, l16, l17, l18, l19, l20, l21, l22, l23, l24, l25, l26, l27] (v.toList ++ S) H' Q) : W0 rm 4 [l0, l1, l2, l3, l4, l5, l6, l7, l8, l9, l10, l11, l12, l13, l14, l15, l16, l17, l18, l19, l20, l21, l22, l23, l24, l25, l26, l27] (a2 :: a1 :: a0 :: S) H Q := W.callS (S := S) (as := [a0, a1, a2]) (rm' := rm') at_4 (List.mem_of_getElem? (i := 0) rfl) (List.mem_of_getElem? (i := 1) rfl) (List.mem_of_getElem? (i := 2) rfl) (List.mem_of_getElem? (i := 3) rfl) (by decide) pd1 rfl rfl hM hr h
theorem s0_7 {rm : Room} {S : List Value} {H : AHeap} {Q : Option Value → AHeap → Prop} {l0 l1 l2 l3 l4 l5 l6 l7 l8 l9 l10 l11 l12 l13 l14 l15 l16 l17 l18 l19 l20 l21 l22 l23 l24 l25 l26 l27 : Slot} {x : Int64} (ho : two l11 l12 = true) (h : W0 rm 9 [l0, l1, l2, l3, l4, l5, l6, l7, l8, l9, l10, .val (.long x), .second, l13, l14, l15, l16, l17, l18, l19, l20, l21, l22, l23, l24, l25, l26, l27] (S) (H) Q) : W0 rm 7 [l0, l1, l2, l3, l4, l5, l6, l7, l8, l9, l10, l11, l12, l13, l14, l15, l16, l17, l18, l19, l20, l21, l22, l23, l24, l25, l26, l27] (.long x :: S) H Q := W.lstore at_7 rfl rfl ho h
theorem s0_9 {rm : Room} {S : List Value} {H : AHeap} {Q : Option Value → AHeap → Prop} {l0 l1 l3 l4 l5 l6 l7 l8 l9 l10 l11 l12 l13 l14 l15 l16 l17 l18 l19 l20 l21 l22 l23 l24 l25 l26 l27 : Slot} {x : Int64} (h : W0 rm 10 [l0, l1, .val (.long x), l3, l4, l5, l6, l7, l8, l9, l10, l11, l12, l13, l14, l15, l16, l17, l18, l19, l20, l21, l22, l23, l24, l25, l26, l27] (.long x :: S) (H) Q) : W0 rm 9 [l0, l1, .val (.long x), l3, l4, l5, l6, l7, l8, l9, l10, l11, l12, l13, l14, l15, l16, l17, l18, l19, l20, l21, l22, l23, l24, l25, l26, l27] (S) H Q := W.lload_n at_9 rfl h
theorem s0_10 {rm : Room} {S : List Value} {H : AHeap} {Q : Option Value → AHeap → Prop} {l0 l1 l2 l3 l4 l5 l6 l7 l8 l9 l11 l12 l13 l14 l15 l16 l17 l18 l19 l20 l21 l22 l23 l24 l25 l26 l27 : Slot} {x : Int32} (h : W0 rm 12 [l0, l1, l2, l3, l4, l5, l6, l7, l8, l9, .val (.int x), l11, l12, l13, l14, l15, l16, l17, l18, l19, l20, l21, l22, l23, l24, l25, l26, l27] (.int x :: S) (H) Q) : W0 rm 10 [l0, l1, l2, l3, l4, l5, l6, l7, l8, l9, .val (.int x), l11, l12, l13, l14, l15, l16, l17, l18, l19, l20, l21, l22, l23, l24, l25, l26, l27] (S) H Q := W.iload at_10 rfl h
theorem s0_12 {rm : Room} {S : List Value} {H : AHeap} {Q : Option Value → AHeap → Prop} {l0 l1 l2 l3 l4 l5 l6 l7 l8 l9 l10 l11 l12 l13 l14 l15 l16 l17 l18 l19 l20 l21 l22 l23 l24 l25 l26 l27 : Slot}  (h : W0 rm 13 [l0, l1, l2, l3, l4, l5, l6, l7, l8, l9, l10, l11, l12, l13, l14, l15, l16, l17, l18, l19, l20, l21, l22, l23, l24, l25, l26, l27] (.int 1 :: S) (H) Q) : W0 rm 12 [l0, l1, l2, l3, l4, l5, l6, l7, l8, l9, l10, l11, l12, l13, l14, l15, l16, l17, l18, l19, l20, l21, l22, l23, l24, l25, l26, l27] (S) H Q := W.iconst' at_12 (by decide) h
theorem s0_13 {rm : Room} {S : List Value} {H : AHeap} {Q : Option Value → AHeap → Prop} {l0 l1 l2 l3 l4 l5 l6 l7 l8 l9 l10 l11 l12 l13 l14 l15 l16 l17 l18 l19 l20 l21 l22 l23 l24 l25 l26 l27 : Slot} {rm' : Room} {H' : AHeap} {a0 : Int64} {a1 : Int32} {a2 : Int32} {r : Int64} (hM : M1 rm' [.long a0, .int a1, .int a2] H (Is (some (.long r)) H')) (hr : rok rm rm' 6 S = true) (h : W0 (less rm rm') 16 [l0, l1, l2, l3, l4, l5, l6, l7, l8, l9, l10, l11, l12, l13, l14, l15, l16, l17, l18, l19, l20, l21, l22, l23, l24, l25, l26, l27] (.long r :: S) H' Q) : W0 rm 13 [l0, l1, l2, l3, l4, l5, l6, l7, l8, l9, l10, l11, l12, l13, l14, l15, l16, l17, l18, l19, l20, l21, l22, l23, l24, l25, l26, l27] (.int a2 :: .int a1 :: .long a0 :: S) H Q := W.callS (S := S) (as := [.long a0, .int a1, .int a2]) (rm' := rm') at_13 (List.mem_of_getElem? (i := 0) rfl) (List.mem_of_getElem? (i := 1) rfl) (List.mem_of_getElem? (i := 2) rfl) (List.mem_of_getElem? (i := 3) rfl) (by decide) pd1 rfl rfl hM hr (fun _ _ q => by obtain ⟨rfl, rfl⟩ := q; exact h)
theorem s0_13q {rm : Room} {S : List Value} {H : AHeap} {Q : Option Value → AHeap → Prop} {l0 l1 l2 l3 l4 l5 l6 l7 l8 l9 l10 l11 l12 l13 l14 l15 l16 l17 l18 l19 l20 l21 l22 l23 l24 l25 l26 l27 : Slot} {rm' : Room} {Q' : Option Value → AHeap → Prop} {a0 a1 a2 : Value} (hM : M1 rm' [a0, a1, a2] H Q') (hr : rok rm rm' 6 S = true) (h : ∀ v H', Q' v H' → W0 (less rm rm') 16 [l0, l1, l2, l3, l4, l5, l6, l7, l8, l9, l10, l11, l12, l13, l14, l15, l16, l17, l18, l19, l20, l21, l22, l23, l24, l25, l26, l27] (v.toList ++ S) H' Q) : W0 rm 13 [l0, l1, l2, l3, l4, l5, l6, l7, l8, l9, l10, l11, l12, l13, l14, l15, l16, l17, l18, l19, l20, l21, l22, l23, l24, l25, l26, l27] (a2 :: a1 :: a0 :: S) H Q := W.callS (S := S) (as := [a0, a1, a2]) (rm' := rm') at_13 (List.mem_of_getElem? (i := 0) rfl) (List.mem_of_getElem? (i := 1) rfl) (List.mem_of_getElem? (i := 2) rfl) (List.mem_of_getElem? (i := 3) rfl) (by decide) pd1 rfl rfl hM hr h
theorem s0_16 {rm : Room} {S : List Value} {H : AHeap} {Q : Option Value → AHeap → Prop} {l0 l1 l2 l3 l4 l5 l6 l7 l8 l9 l10 l11 l12 l13 l14 l15 l16 l17 l18 l19 l20 l21 l22 l23 l24 l25 l26 l27 : Slot} {x : Int64} (ho : two l13 l14 = true) (h : W0 rm 18 [l0, l1, l2, l3, l4, l5, l6, l7, l8, l9, l10, l11, l12, .val (.long x), .second, l15, l16, l17, l18, l19, l20, l21, l22, l23, l24, l25, l26, l27] (S) (H) Q) : W0 rm 16 [l0, l1, l2, l3, l4, l5, l6, l7, l8, l9, l10, l11, l12, l13, l14, l15, l16, l17, l18, l19, l20, l21, l22, l23, l24, l25, l26, l27] (.long x :: S) H Q := W.lstore at_16 rfl rfl ho h
theorem s0_18 {rm : Room} {S : List Value} {H : AHeap} {Q : Option Value → AHeap → Prop} {l0 l1 l2 l3 l5 l6 l7 l8 l9 l10 l11 l12 l13 l14 l15 l16 l17 l18 l19 l20 l21 l22 l23 l24 l25 l26 l27 : Slot} {x : Int64} (h : W0 rm 20 [l0, l1, l2, l3, .val (.long x), l5, l6, l7, l8, l9, l10, l11, l12, l13, l14, l15, l16, l17, l18, l19, l20, l21, l22, l23, l24, l25, l26, l27] (.long x :: S) (H) Q) : W0 rm 18 [l0, l1, l2, l3, .val (.long x), l5, l6, l7, l8, l9, l10, l11, l12, l13, l14, l15, l16, l17, l18, l19, l20, l21, l22, l23, l24, l25, l26, l27] (S) H Q := W.lload at_18 rfl h
theorem s0_20 {rm : Room} {S : List Value} {H : AHeap} {Q : Option Value → AHeap → Prop} {l0 l1 l2 l3 l4 l5 l6 l7 l8 l9 l11 l12 l13 l14 l15 l16 l17 l18 l19 l20 l21 l22 l23 l24 l25 l26 l27 : Slot} {x : Int32} (h : W0 rm 22 [l0, l1, l2, l3, l4, l5, l6, l7, l8, l9, .val (.int x), l11, l12, l13, l14, l15, l16, l17, l18, l19, l20, l21, l22, l23, l24, l25, l26, l27] (.int x :: S) (H) Q) : W0 rm 20 [l0, l1, l2, l3, l4, l5, l6, l7, l8, l9, .val (.int x), l11, l12, l13, l14, l15, l16, l17, l18, l19, l20, l21, l22, l23, l24, l25, l26, l27] (S) H Q := W.iload at_20 rfl h
theorem s0_22 {rm : Room} {S : List Value} {H : AHeap} {Q : Option Value → AHeap → Prop} {l0 l1 l2 l3 l4 l5 l6 l7 l8 l9 l10 l11 l12 l13 l14 l15 l16 l17 l18 l19 l20 l21 l22 l23 l24 l25 l26 l27 : Slot}  (h : W0 rm 23 [l0, l1, l2, l3, l4, l5, l6, l7, l8, l9, l10, l11, l12, l13, l14, l15, l16, l17, l18, l19, l20, l21, l22, l23, l24, l25, l26, l27] (.int 2 :: S) (H) Q) : W0 rm 22 [l0, l1, l2, l3, l4, l5, l6, l7, l8, l9, l10, l11, l12, l13, l14, l15, l16, l17, l18, l19, l20, l21, l22, l23, l24, l25, l26, l27] (S) H Q := W.iconst' at_22 (by decide) h
theorem s0_23 {rm : Room} {S : List Value} {H : AHeap} {Q : Option Value → AHeap → Prop} {l0 l1 l2 l3 l4 l5 l6 l7 l8 l9 l10 l11 l12 l13 l14 l15 l16 l17 l18 l19 l20 l21 l22 l23 l24 l25 l26 l27 : Slot} {rm' : Room} {H' : AHeap} {a0 : Int64} {a1 : Int32} {a2 : Int32} {r : Int64} (hM : M1 rm' [.long a0, .int a1, .int a2] H (Is (some (.long r)) H')) (hr : rok rm rm' 6 S = true) (h : W0 (less rm rm') 26 [l0, l1, l2, l3, l4, l5, l6, l7, l8, l9, l10, l11, l12, l13, l14, l15, l16, l17, l18, l19, l20, l21, l22, l23, l24, l25, l26, l27] (.long r :: S) H' Q) : W0 rm 23 [l0, l1, l2, l3, l4, l5, l6, l7, l8, l9, l10, l11, l12, l13, l14, l15, l16, l17, l18, l19, l20, l21, l22, l23, l24, l25, l26, l27] (.int a2 :: .int a1 :: .long a0 :: S) H Q := W.callS (S := S) (as := [.long a0, .int a1, .int a2]) (rm' := rm') at_23 (List.mem_of_getElem? (i := 0) rfl) (List.mem_of_getElem? (i := 1) rfl) (List.mem_of_getElem? (i := 2) rfl) (List.mem_of_getElem? (i := 3) rfl) (by decide) pd1 rfl rfl hM hr (fun _ _ q => by obtain ⟨rfl, rfl⟩ := q; exact h)
theorem s0_23q {rm : Room} {S : List Value} {H : AHeap} {Q : Option Value → AHeap → Prop} {l0 l1 l2 l3 l4 l5 l6 l7 l8 l9 l10 l11 l12 l13 l14 l15 l16 l17 l18 l19 l20 l21 l22 l23 l24 l25 l26 l27 : Slot} {rm' : Room} {Q' : Option Value → AHeap → Prop} {a0 a1 a2 : Value} (hM : M1 rm' [a0, a1, a2] H Q') (hr : rok rm rm' 6 S = true) (h : ∀ v H', Q' v H' → W0 (less rm rm') 26 [l0, l1, l2, l3, l4, l5, l6, l7, l8, l9, l10, l11, l12, l13, l14, l15, l16, l17, l18, l19, l20, l21, l22, l23, l24, l25, l26, l27] (v.toList ++ S) H' Q) : W0 rm 23 [l0, l1, l2, l3, l4, l5, l6, l7, l8, l9, l10, l11, l12, l13, l14, l15, l16, l17, l18, l19, l20, l21, l22, l23, l24, l25, l26, l27] (a2 :: a1 :: a0 :: S) H Q := W.callS (S := S) (as := [a0, a1, a2]) (rm' := rm') at_23 (List.mem_of_getElem? (i := 0) rfl) (List.mem_of_getElem? (i := 1) rfl) (List.mem_of_getElem? (i := 2) rfl) (List.mem_of_getElem? (i := 3) rfl) (by decide) pd1 rfl rfl hM hr h
theorem s0_26 {rm : Room} {S : List Value} {H : AHeap} {Q : Option Value → AHeap → Prop} {l0 l1 l2 l3 l4 l5 l6 l7 l8 l9 l10 l11 l12 l13 l14 l15 l16 l17 l18 l19 l20 l21 l22 l23 l24 l25 l26 l27 : Slot} {x : Int64} (ho : two l15 l16 = true) (h : W0 rm 28 [l0, l1, l2, l3, l4, l5, l6, l7, l8, l9, l10, l11, l12, l13, l14, .val (.long x), .second, l17, l18, l19, l20, l21, l22, l23, l24, l25, l26, l27] (S) (H) Q) : W0 rm 26 [l0, l1, l2, l3, l4, l5, l6, l7, l8, l9, l10, l11, l12, l13, l14, l15, l16, l17, l18, l19, l20, l21, l22, l23, l24, l25, l26, l27] (.long x :: S) H Q := W.lstore at_26 rfl rfl ho h
theorem s0_28 {rm : Room} {S : List Value} {H : AHeap} {Q : Option Value → AHeap → Prop} {l0 l1 l2 l3 l4 l5 l7 l8 l9 l10 l11 l12 l13 l14 l15 l16 l17 l18 l19 l20 l21 l22 l23 l24 l25 l26 l27 : Slot} {x : Int64} (h : W0 rm 30 [l0, l1, l2, l3, l4, l5, .val (.long x), l7, l8, l9, l10, l11, l12, l13, l14, l15, l16, l17, l18, l19, l20, l21, l22, l23, l24, l25, l26, l27] (.long x :: S) (H) Q) : W0 rm 28 [l0, l1, l2, l3, l4, l5, .val (.long x), l7, l8, l9, l10, l11, l12, l13, l14, l15, l16, l17, l18, l19, l20, l21, l22, l23, l24, l25, l26, l27] (S) H Q := W.lload at_28 rfl h
theorem s0_30 {rm : Room} {S : List Value} {H : AHeap} {Q : Option Value → AHeap → Prop} {l0 l1 l2 l3 l4 l5 l6 l7 l8 l9 l11 l12 l13 l14 l15 l16 l17 l18 l19 l20 l21 l22 l23 l24 l25 l26 l27 : Slot} {x : Int32} (h : W0 rm 32 [l0, l1, l2, l3, l4, l5, l6, l7, l8, l9, .val (.int x), l11, l12, l13, l14, l15, l16, l17, l18, l19, l20, l21, l22, l23, l24, l25, l26, l27] (.int x :: S) (H) Q) : W0 rm 30 [l0, l1, l2, l3, l4, l5, l6, l7, l8, l9, .val (.int x), l11, l12, l13, l14, l15, l16, l17, l18, l19, l20, l21, l22, l23, l24, l25, l26, l27] (S) H Q := W.iload at_30 rfl h
theorem s0_32 {rm : Room} {S : List Value} {H : AHeap} {Q : Option Value → AHeap → Prop} {l0 l1 l2 l3 l4 l5 l6 l7 l8 l9 l10 l11 l12 l13 l14 l15 l16 l17 l18 l19 l20 l21 l22 l23 l24 l25 l26 l27 : Slot}  (h : W0 rm 33 [l0, l1, l2, l3, l4, l5, l6, l7, l8, l9, l10, l11, l12, l13, l14, l15, l16, l17, l18, l19, l20, l21, l22, l23, l24, l25, l26, l27] (.int 3 :: S) (H) Q) : W0 rm 32 [l0, l1, l2, l3, l4, l5, l6, l7, l8, l9, l10, l11, l12, l13, l14, l15, l16, l17, l18, l19, l20, l21, l22, l23, l24, l25, l26, l27] (S) H Q := W.iconst' at_32 (by decide) h
theorem s0_33 {rm : Room} {S : List Value} {H : AHeap} {Q : Option Value → AHeap → Prop} {l0 l1 l2 l3 l4 l5 l6 l7 l8 l9 l10 l11 l12 l13 l14 l15 l16 l17 l18 l19 l20 l21 l22 l23 l24 l25 l26 l27 : Slot} {rm' : Room} {H' : AHeap} {a0 : Int64} {a1 : Int32} {a2 : Int32} {r : Int64} (hM : M1 rm' [.long a0, .int a1, .int a2] H (Is (some (.long r)) H')) (hr : rok rm rm' 6 S = true) (h : W0 (less rm rm') 36 [l0, l1, l2, l3, l4, l5, l6, l7, l8, l9, l10, l11, l12, l13, l14, l15, l16, l17, l18, l19, l20, l21, l22, l23, l24, l25, l26, l27] (.long r :: S) H' Q) : W0 rm 33 [l0, l1, l2, l3, l4, l5, l6, l7, l8, l9, l10, l11, l12, l13, l14, l15, l16, l17, l18, l19, l20, l21, l22, l23, l24, l25, l26, l27] (.int a2 :: .int a1 :: .long a0 :: S) H Q := W.callS (S := S) (as := [.long a0, .int a1, .int a2]) (rm' := rm') at_33 (List.mem_of_getElem? (i := 0) rfl) (List.mem_of_getElem? (i := 1) rfl) (List.mem_of_getElem? (i := 2) rfl) (List.mem_of_getElem? (i := 3) rfl) (by decide) pd1 rfl rfl hM hr (fun _ _ q => by obtain ⟨rfl, rfl⟩ := q; exact h)
theorem s0_33q {rm : Room} {S : List Value} {H : AHeap} {Q : Option Value → AHeap → Prop} {l0 l1 l2 l3 l4 l5 l6 l7 l8 l9 l10 l11 l12 l13 l14 l15 l16 l17 l18 l19 l20 l21 l22 l23 l24 l25 l26 l27 : Slot} {rm' : Room} {Q' : Option Value → AHeap → Prop} {a0 a1 a2 : Value} (hM : M1 rm' [a0, a1, a2] H Q') (hr : rok rm rm' 6 S = true) (h : ∀ v H', Q' v H' → W0 (less rm rm') 36 [l0, l1, l2, l3, l4, l5, l6, l7, l8, l9, l10, l11, l12, l13, l14, l15, l16, l17, l18, l19, l20, l21, l22, l23, l24, l25, l26, l27] (v.toList ++ S) H' Q) : W0 rm 33 [l0, l1, l2, l3, l4, l5, l6, l7, l8, l9, l10, l11, l12, l13, l14, l15, l16, l17, l18, l19, l20, l21, l22, l23, l24, l25, l26, l27] (a2 :: a1 :: a0 :: S) H Q := W.callS (S := S) (as := [a0, a1, a2]) (rm' := rm') at_33 (List.mem_of_getElem? (i := 0) rfl) (List.mem_of_getElem? (i := 1) rfl) (List.mem_of_getElem? (i := 2) rfl) (List.mem_of_getElem? (i := 3) rfl) (by decide) pd1 rfl rfl hM hr h
theorem s0_36 {rm : Room} {S : List Value} {H : AHeap} {Q : Option Value → AHeap → Prop} {l0 l1 l2 l3 l4 l5 l6 l7 l8 l9 l10 l11 l12 l13 l14 l15 l16 l17 l18 l19 l20 l21 l22 l23 l24 l25 l26 l27 : Slot} {x : Int64} (ho : two l17 l18 = true) (h : W0 rm 38 [l0, l1, l2, l3, l4, l5, l6, l7, l8, l9, l10, l11, l12, l13, l14, l15, l16, .val (.long x), .second, l19, l20, l21, l22, l23, l24, l25, l26, l27] (S) (H) Q) : W0 rm 36 [l0, l1, l2, l3, l4, l5, l6, l7, l8, l9, l10, l11, l12, l13, l14, l15, l16, l17, l18, l19, l20, l21, l22, l23, l24, l25, l26, l27] (.long x :: S) H Q := W.lstore at_36 rfl rfl ho h
theorem s0_38 {rm : Room} {S : List Value} {H : AHeap} {Q : Option Value → AHeap → Prop} {l0 l1 l2 l3 l4 l5 l6 l7 l9 l10 l11 l12 l13 l14 l15 l16 l17 l18 l19 l20 l21 l22 l23 l24 l25 l26 l27 : Slot} {x : Int64} (h : W0 rm 40 [l0, l1, l2, l3, l4, l5, l6, l7, .val (.long x), l9, l10, l11, l12, l13, l14, l15, l16, l17, l18, l19, l20, l21, l22, l23, l24, l25, l26, l27] (.long x :: S) (H) Q) : W0 rm 38 [l0, l1, l2, l3, l4, l5, l6, l7, .val (.long x), l9, l10, l11, l12, l13, l14, l15, l16, l17, l18, l19, l20, l21, l22, l23, l24, l25, l26, l27] (S) H Q := W.lload at_38 rfl h
theorem s0_40 {rm : Room} {S : List Value} {H : AHeap} {Q : Option Value → AHeap → Prop} {l0 l1 l2 l3 l4 l5 l6 l7 l8 l9 l11 l12 l13 l14 l15 l16 l17 l18 l19 l20 l21 l22 l23 l24 l25 l26 l27 : Slot} {x : Int32} (h : W0 rm 42 [l0, l1, l2, l3, l4, l5, l6, l7, l8, l9, .val (.int x), l11, l12, l13, l14, l15, l16, l17, l18, l19, l20, l21, l22, l23, l24, l25, l26, l27] (.int x :: S) (H) Q) : W0 rm 40 [l0, l1, l2, l3, l4, l5, l6, l7, l8, l9, .val (.int x), l11, l12, l13, l14, l15, l16, l17, l18, l19, l20, l21, l22, l23, l24, l25, l26, l27] (S) H Q := W.iload at_40 rfl h
theorem s0_42 {rm : Room} {S : List Value} {H : AHeap} {Q : Option Value → AHeap → Prop} {l0 l1 l2 l3 l4 l5 l6 l7 l8 l9 l10 l11 l12 l13 l14 l15 l16 l17 l18 l19 l20 l21 l22 l23 l24 l25 l26 l27 : Slot}  (h : W0 rm 43 [l0, l1, l2, l3, l4, l5, l6, l7, l8, l9, l10, l11, l12, l13, l14, l15, l16, l17, l18, l19, l20, l21, l22, l23, l24, l25, l26, l27] (.int 4 :: S) (H) Q) : W0 rm 42 [l0, l1, l2, l3, l4, l5, l6, l7, l8, l9, l10, l11, l12, l13, l14, l15, l16, l17, l18, l19, l20, l21, l22, l23, l24, l25, l26, l27] (S) H Q := W.iconst' at_42 (by decide) h
theorem s0_43 {rm : Room} {S : List Value} {H : AHeap} {Q : Option Value → AHeap → Prop} {l0 l1 l2 l3 l4 l5 l6 l7 l8 l9 l10 l11 l12 l13 l14 l15 l16 l17 l18 l19 l20 l21 l22 l23 l24 l25 l26 l27 : Slot} {rm' : Room} {H' : AHeap} {a0 : Int64} {a1 : Int32} {a2 : Int32} {r : Int64} (hM : M1 rm' [.long a0, .int a1, .int a2] H (Is (some (.long r)) H')) (hr : rok rm rm' 6 S = true) (h : W0 (less rm rm') 46 [l0, l1, l2, l3, l4, l5, l6, l7, l8, l9, l10, l11, l12, l13, l14, l15, l16, l17, l18, l19, l20, l21, l22, l23, l24, l25, l26, l27] (.long r :: S) H' Q) : W0 rm 43 [l0, l1, l2, l3, l4, l5, l6, l7, l8, l9, l10, l11, l12, l13, l14, l15, l16, l17, l18, l19, l20, l21, l22, l23, l24, l25, l26, l27] (.int a2 :: .int a1 :: .long a0 :: S) H Q := W.callS (S := S) (as := [.long a0, .int a1, .int a2]) (rm' := rm') at_43 (List.mem_of_getElem? (i := 0) rfl) (List.mem_of_getElem? (i := 1) rfl) (List.mem_of_getElem? (i := 2) rfl) (List.mem_of_getElem? (i := 3) rfl) (by decide) pd1 rfl rfl hM hr (fun _ _ q => by obtain ⟨rfl, rfl⟩ := q; exact h)
theorem s0_43q {rm : Room} {S : List Value} {H : AHeap} {Q : Option Value → AHeap → Prop} {l0 l1 l2 l3 l4 l5 l6 l7 l8 l9 l10 l11 l12 l13 l14 l15 l16 l17 l18 l19 l20 l21 l22 l23 l24 l25 l26 l27 : Slot} {rm' : Room} {Q' : Option Value → AHeap → Prop} {a0 a1 a2 : Value} (hM : M1 rm' [a0, a1, a2] H Q') (hr : rok rm rm' 6 S = true) (h : ∀ v H', Q' v H' → W0 (less rm rm') 46 [l0, l1, l2, l3, l4, l5, l6, l7, l8, l9, l10, l11, l12, l13, l14, l15, l16, l17, l18, l19, l20, l21, l22, l23, l24, l25, l26, l27] (v.toList ++ S) H' Q) : W0 rm 43 [l0, l1, l2, l3, l4, l5, l6, l7, l8, l9, l10, l11, l12, l13, l14, l15, l16, l17, l18, l19, l20, l21, l22, l23, l24, l25, l26, l27] (a2 :: a1 :: a0 :: S) H Q := W.callS (S := S) (as := [a0, a1, a2]) (rm' := rm') at_43 (List.mem_of_getElem? (i := 0) rfl) (List.mem_of_getElem? (i := 1) rfl) (List.mem_of_getElem? (i := 2) rfl) (List.mem_of_getElem? (i := 3) rfl) (by decide) pd1 rfl rfl hM hr h
theorem s0_46 {rm : Room} {S : List Value} {H : AHeap} {Q : Option Value → AHeap → Prop} {l0 l1 l2 l3 l4 l5 l6 l7 l8 l9 l10 l11 l12 l13 l14 l15 l16 l17 l18 l19 l20 l21 l22 l23 l24 l25 l26 l27 : Slot} {x : Int64} (ho : two l19 l20 = true) (h : W0 rm 48 [l0, l1, l2, l3, l4, l5, l6, l7, l8, l9, l10, l11, l12, l13, l14, l15, l16, l17, l18, .val (.long x), .second, l21, l22, l23, l24, l25, l26, l27] (S) (H) Q) : W0 rm 46 [l0, l1, l2, l3, l4, l5, l6, l7, l8, l9, l10, l11, l12, l13, l14, l15, l16, l17, l18, l19, l20, l21, l22, l23, l24, l25, l26, l27] (.long x :: S) H Q := W.lstore at_46 rfl rfl ho h
theorem s0_48 {rm : Room} {S : List Value} {H : AHeap} {Q : Option Value → AHeap → Prop} {l0 l1 l2 l3 l4 l5 l6 l7 l8 l9 l10 l11 l12 l13 l14 l15 l16 l17 l18 l19 l20 l21 l22 l23 l24 l25 l26 l27 : Slot}  (h : W0 rm 49 [l0, l1, l2, l3, l4, l5, l6, l7, l8, l9, l10, l11, l12, l13, l14, l15, l16, l17, l18, l19, l20, l21, l22, l23, l24, l25, l26, l27] (.int 5 :: S) (H) Q) : W0 rm 48 [l0, l1, l2, l3, l4, l5, l6, l7, l8, l9, l10, l11, l12, l13, l14, l15, l16, l17, l18, l19, l20, l21, l22, l23, l24, l25, l26, l27] (S) H Q := W.iconst' at_48 (by decide) h
theorem s0_49 {rm : Room} {S : List Value} {H : AHeap} {Q : Option Value → AHeap → Prop} {l0 l1 l2 l3 l4 l5 l6 l7 l8 l9 l10 l11 l12 l13 l14 l15 l16 l17 l18 l19 l20 l21 l22 l23 l24 l25 l26 l27 : Slot} {n : Int32} (i N : Nat) (hn : ix n N) (hi : H.length = i) (hr : nok rm N = true) (h : W0 ⟨rm.frames, rm.cells - 1, rm.slots - N, rm.locals⟩ 51 [l0, l1, l2, l3, l4, l5, l6, l7, l8, l9, l10, l11, l12, l13, l14, l15, l16, l17, l18, l19, l20, l21, l22, l23, l24, l25, l26, l27] (.ref i :: S) (H ++ [.inr (.long, List.replicate N (.long 0))]) Q) : W0 rm 49 [l0, l1, l2, l3, l4, l5, l6, l7, l8, l9, l10, l11, l12, l13, l14, l15, l16, l17, l18, l19, l20, l21, l22, l23, l24, l25, l26, l27] (.int n :: S) H Q := W.newarray (ty := .long) (d := .long 0) at_49 rfl (List.mem_of_getElem? (i := 5) rfl) rfl hn hi hr h
theorem s0_51 {rm : Room} {S : List Value} {H : AHeap} {Q : Option Value → AHeap → Prop} {l0 l1 l2 l3 l4 l5 l6 l7 l8 l9 l10 l11 l12 l13 l14 l15 l16 l17 l18 l19 l20 l21 l22 l23 l24 l25 l26 l27 : Slot} {v : Value} (hc : v.category = 1) (h : W0 rm 52 [l0, l1, l2, l3, l4, l5, l6, l7, l8, l9, l10, l11, l12, l13, l14, l15, l16, l17, l18, l19, l20, l21, l22, l23, l24, l25, l26, l27] (v :: v :: S) (H) Q) : W0 rm 51 [l0, l1, l2, l3, l4, l5, l6, l7, l8, l9, l10, l11, l12, l13, l14, l15, l16, l17, l18, l19, l20, l21, l22, l23, l24, l25, l26, l27] (v :: S) H Q := W.dup at_51 hc h
theorem s0_52 {rm : Room} {S : List Value} {H : AHeap} {Q : Option Value → AHeap → Prop} {l0 l1 l2 l3 l4 l5 l6 l7 l8 l9 l10 l11 l12 l13 l14 l15 l16 l17 l18 l19 l20 l21 l22 l23 l24 l25 l26 l27 : Slot}  (h : W0 rm 53 [l0, l1, l2, l3, l4, l5, l6, l7, l8, l9, l10, l11, l12, l13, l14, l15, l16, l17, l18, l19, l20, l21, l22, l23, l24, l25, l26, l27] (.int 0 :: S) (H) Q) : W0 rm 52 [l0, l1, l2, l3, l4, l5, l6, l7, l8, l9, l10, l11, l12, l13, l14, l15, l16, l17, l18, l19, l20, l21, l22, l23, l24, l25, l26, l27] (S) H Q := W.iconst' at_52 (by decide) h
theorem s0_53 {rm : Room} {S : List Value} {H : AHeap} {Q : Option Value → AHeap → Prop} {l0 l1 l2 l3 l4 l5 l6 l7 l8 l9 l10 l12 l13 l14 l15 l16 l17 l18 l19 l20 l21 l22 l23 l24 l25 l26 l27 : Slot} {x : Int64} (h : W0 rm 55 [l0, l1, l2, l3, l4, l5, l6, l7, l8, l9, l10, .val (.long x), l12, l13, l14, l15, l16, l17, l18, l19, l20, l21, l22, l23, l24, l25, l26, l27] (.long x :: S) (H) Q) : W0 rm 53 [l0, l1, l2, l3, l4, l5, l6, l7, l8, l9, l10, .val (.long x), l12, l13, l14, l15, l16, l17, l18, l19, l20, l21, l22, l23, l24, l25, l26, l27] (S) H Q := W.lload at_53 rfl h
theorem s0_55 {rm : Room} {S : List Value} {H : AHeap} {Q : Option Value → AHeap → Prop} {l0 l1 l2 l3 l4 l5 l6 l7 l8 l9 l10 l11 l12 l13 l14 l15 l16 l17 l18 l19 l20 l21 l22 l23 l24 l25 l26 l27 : Slot} {i : Nat} {j : Int32} {x : Int64} {vs : List Value} (N : Nat) (hH : H[i]? = some (.inr (.long, vs))) (hj : ix j N) (hl : Nat.blt N vs.length = true) (h : W0 rm 56 [l0, l1, l2, l3, l4, l5, l6, l7, l8, l9, l10, l11, l12, l13, l14, l15, l16, l17, l18, l19, l20, l21, l22, l23, l24, l25, l26, l27] (S) (H.set i (.inr (.long, vs.set N (.long x)))) Q) : W0 rm 55 [l0, l1, l2, l3, l4, l5, l6, l7, l8, l9, l10, l11, l12, l13, l14, l15, l16, l17, l18, l19, l20, l21, l22, l23, l24, l25, l26, l27] (.long x :: .int j :: .ref i :: S) H Q := W.lastore at_55 hH hj hl h
theorem s0_56 {rm : Room} {S : List Value} {H : AHeap} {Q : Option Value → AHeap → Prop} {l0 l1 l2 l3 l4 l5 l6 l7 l8 l9 l10 l11 l12 l13 l14 l15 l16 l17 l18 l19 l20 l21 l22 l23 l24 l25 l26 l27 : Slot} {v : Value} (hc : v.category = 1) (h : W0 rm 57 [l0, l1, l2, l3, l4, l5, l6, l7, l8, l9, l10, l11, l12, l13, l14, l15, l16, l17, l18, l19, l20, l21, l22, l23, l24, l25, l26, l27] (v :: v :: S) (H) Q) : W0 rm 56 [l0, l1, l2, l3, l4, l5, l6, l7, l8, l9, l10, l11, l12, l13, l14, l15, l16, l17, l18, l19, l20, l21, l22, l23, l24, l25, l26, l27] (v :: S) H Q := W.dup at_56 hc h
theorem s0_57 {rm : Room} {S : List Value} {H : AHeap} {Q : Option Value → AHeap → Prop} {l0 l1 l2 l3 l4 l5 l6 l7 l8 l9 l10 l11 l12 l13 l14 l15 l16 l17 l18 l19 l20 l21 l22 l23 l24 l25 l26 l27 : Slot}  (h : W0 rm 58 [l0, l1, l2, l3, l4, l5, l6, l7, l8, l9, l10, l11, l12, l13, l14, l15, l16, l17, l18, l19, l20, l21, l22, l23, l24, l25, l26, l27] (.int 1 :: S) (H) Q) : W0 rm 57 [l0, l1, l2, l3, l4, l5, l6, l7, l8, l9, l10, l11, l12, l13, l14, l15, l16, l17, l18, l19, l20, l21, l22, l23, l24, l25, l26, l27] (S) H Q := W.iconst' at_57 (by decide) h
theorem s0_58 {rm : Room} {S : List Value} {H : AHeap} {Q : Option Value → AHeap → Prop} {l0 l1 l2 l3 l4 l5 l6 l7 l8 l9 l10 l11 l12 l14 l15 l16 l17 l18 l19 l20 l21 l22 l23 l24 l25 l26 l27 : Slot} {x : Int64} (h : W0 rm 60 [l0, l1, l2, l3, l4, l5, l6, l7, l8, l9, l10, l11, l12, .val (.long x), l14, l15, l16, l17, l18, l19, l20, l21, l22, l23, l24, l25, l26, l27] (.long x :: S) (H) Q) : W0 rm 58 [l0, l1, l2, l3, l4, l5, l6, l7, l8, l9, l10, l11, l12, .val (.long x), l14, l15, l16, l17, l18, l19, l20, l21, l22, l23, l24, l25, l26, l27] (S) H Q := W.lload at_58 rfl h
theorem s0_60 {rm : Room} {S : List Value} {H : AHeap} {Q : Option Value → AHeap → Prop} {l0 l1 l2 l3 l4 l5 l6 l7 l8 l9 l10 l11 l12 l13 l14 l15 l16 l17 l18 l19 l20 l21 l22 l23 l24 l25 l26 l27 : Slot} {i : Nat} {j : Int32} {x : Int64} {vs : List Value} (N : Nat) (hH : H[i]? = some (.inr (.long, vs))) (hj : ix j N) (hl : Nat.blt N vs.length = true) (h : W0 rm 61 [l0, l1, l2, l3, l4, l5, l6, l7, l8, l9, l10, l11, l12, l13, l14, l15, l16, l17, l18, l19, l20, l21, l22, l23, l24, l25, l26, l27] (S) (H.set i (.inr (.long, vs.set N (.long x)))) Q) : W0 rm 60 [l0, l1, l2, l3, l4, l5, l6, l7, l8, l9, l10, l11, l12, l13, l14, l15, l16, l17, l18, l19, l20, l21, l22, l23, l24, l25, l26, l27] (.long x :: .int j :: .ref i :: S) H Q := W.lastore at_60 hH hj hl h
theorem s0_61 {rm : Room} {S : List Value} {H : AHeap} {Q : Option Value → AHeap → Prop} {l0 l1 l2 l3 l4 l5 l6 l7 l8 l9 l10 l11 l12 l13 l14 l15 l16 l17 l18 l19 l20 l21 l22 l23 l24 l25 l26 l27 : Slot} {v : Value} (hc : v.category = 1) (h : W0 rm 62 [l0, l1, l2, l3, l4, l5, l6, l7, l8, l9, l10, l11, l12, l13, l14, l15, l16, l17, l18, l19, l20, l21, l22, l23, l24, l25, l26, l27] (v :: v :: S) (H) Q) : W0 rm 61 [l0, l1, l2, l3, l4, l5, l6, l7, l8, l9, l10, l11, l12, l13, l14, l15, l16, l17, l18, l19, l20, l21, l22, l23, l24, l25, l26, l27] (v :: S) H Q := W.dup at_61 hc h
theorem s0_62 {rm : Room} {S : List Value} {H : AHeap} {Q : Option Value → AHeap → Prop} {l0 l1 l2 l3 l4 l5 l6 l7 l8 l9 l10 l11 l12 l13 l14 l15 l16 l17 l18 l19 l20 l21 l22 l23 l24 l25 l26 l27 : Slot}  (h : W0 rm 63 [l0, l1, l2, l3, l4, l5, l6, l7, l8, l9, l10, l11, l12, l13, l14, l15, l16, l17, l18, l19, l20, l21, l22, l23, l24, l25, l26, l27] (.int 2 :: S) (H) Q) : W0 rm 62 [l0, l1, l2, l3, l4, l5, l6, l7, l8, l9, l10, l11, l12, l13, l14, l15, l16, l17, l18, l19, l20, l21, l22, l23, l24, l25, l26, l27] (S) H Q := W.iconst' at_62 (by decide) h
theorem s0_63 {rm : Room} {S : List Value} {H : AHeap} {Q : Option Value → AHeap → Prop} {l0 l1 l2 l3 l4 l5 l6 l7 l8 l9 l10 l11 l12 l13 l14 l16 l17 l18 l19 l20 l21 l22 l23 l24 l25 l26 l27 : Slot} {x : Int64} (h : W0 rm 65 [l0, l1, l2, l3, l4, l5, l6, l7, l8, l9, l10, l11, l12, l13, l14, .val (.long x), l16, l17, l18, l19, l20, l21, l22, l23, l24, l25, l26, l27] (.long x :: S) (H) Q) : W0 rm 63 [l0, l1, l2, l3, l4, l5, l6, l7, l8, l9, l10, l11, l12, l13, l14, .val (.long x), l16, l17, l18, l19, l20, l21, l22, l23, l24, l25, l26, l27] (S) H Q := W.lload at_63 rfl h
theorem s0_65 {rm : Room} {S : List Value} {H : AHeap} {Q : Option Value → AHeap → Prop} {l0 l1 l2 l3 l4 l5 l6 l7 l8 l9 l10 l11 l12 l13 l14 l15 l16 l17 l18 l19 l20 l21 l22 l23 l24 l25 l26 l27 : Slot} {i : Nat} {j : Int32} {x : Int64} {vs : List Value} (N : Nat) (hH : H[i]? = some (.inr (.long, vs))) (hj : ix j N) (hl : Nat.blt N vs.length = true) (h : W0 rm 66 [l0, l1, l2, l3, l4, l5, l6, l7, l8, l9, l10, l11, l12, l13, l14, l15, l16, l17, l18, l19, l20, l21, l22, l23, l24, l25, l26, l27] (S) (H.set i (.inr (.long, vs.set N (.long x)))) Q) : W0 rm 65 [l0, l1, l2, l3, l4, l5, l6, l7, l8, l9, l10, l11, l12, l13, l14, l15, l16, l17, l18, l19, l20, l21, l22, l23, l24, l25, l26, l27] (.long x :: .int j :: .ref i :: S) H Q := W.lastore at_65 hH hj hl h
theorem s0_66 {rm : Room} {S : List Value} {H : AHeap} {Q : Option Value → AHeap → Prop} {l0 l1 l2 l3 l4 l5 l6 l7 l8 l9 l10 l11 l12 l13 l14 l15 l16 l17 l18 l19 l20 l21 l22 l23 l24 l25 l26 l27 : Slot} {v : Value} (hc : v.category = 1) (h : W0 rm 67 [l0, l1, l2, l3, l4, l5, l6, l7, l8, l9, l10, l11, l12, l13, l14, l15, l16, l17, l18, l19, l20, l21, l22, l23, l24, l25, l26, l27] (v :: v :: S) (H) Q) : W0 rm 66 [l0, l1, l2, l3, l4, l5, l6, l7, l8, l9, l10, l11, l12, l13, l14, l15, l16, l17, l18, l19, l20, l21, l22, l23, l24, l25, l26, l27] (v :: S) H Q := W.dup at_66 hc h
theorem s0_67 {rm : Room} {S : List Value} {H : AHeap} {Q : Option Value → AHeap → Prop} {l0 l1 l2 l3 l4 l5 l6 l7 l8 l9 l10 l11 l12 l13 l14 l15 l16 l17 l18 l19 l20 l21 l22 l23 l24 l25 l26 l27 : Slot}  (h : W0 rm 68 [l0, l1, l2, l3, l4, l5, l6, l7, l8, l9, l10, l11, l12, l13, l14, l15, l16, l17, l18, l19, l20, l21, l22, l23, l24, l25, l26, l27] (.int 3 :: S) (H) Q) : W0 rm 67 [l0, l1, l2, l3, l4, l5, l6, l7, l8, l9, l10, l11, l12, l13, l14, l15, l16, l17, l18, l19, l20, l21, l22, l23, l24, l25, l26, l27] (S) H Q := W.iconst' at_67 (by decide) h
theorem s0_68 {rm : Room} {S : List Value} {H : AHeap} {Q : Option Value → AHeap → Prop} {l0 l1 l2 l3 l4 l5 l6 l7 l8 l9 l10 l11 l12 l13 l14 l15 l16 l18 l19 l20 l21 l22 l23 l24 l25 l26 l27 : Slot} {x : Int64} (h : W0 rm 70 [l0, l1, l2, l3, l4, l5, l6, l7, l8, l9, l10, l11, l12, l13, l14, l15, l16, .val (.long x), l18, l19, l20, l21, l22, l23, l24, l25, l26, l27] (.long x :: S) (H) Q) : W0 rm 68 [l0, l1, l2, l3, l4, l5, l6, l7, l8, l9, l10, l11, l12, l13, l14, l15, l16, .val (.long x), l18, l19, l20, l21, l22, l23, l24, l25, l26, l27] (S) H Q := W.lload at_68 rfl h
theorem s0_70 {rm : Room} {S : List Value} {H : AHeap} {Q : Option Value → AHeap → Prop} {l0 l1 l2 l3 l4 l5 l6 l7 l8 l9 l10 l11 l12 l13 l14 l15 l16 l17 l18 l19 l20 l21 l22 l23 l24 l25 l26 l27 : Slot} {i : Nat} {j : Int32} {x : Int64} {vs : List Value} (N : Nat) (hH : H[i]? = some (.inr (.long, vs))) (hj : ix j N) (hl : Nat.blt N vs.length = true) (h : W0 rm 71 [l0, l1, l2, l3, l4, l5, l6, l7, l8, l9, l10, l11, l12, l13, l14, l15, l16, l17, l18, l19, l20, l21, l22, l23, l24, l25, l26, l27] (S) (H.set i (.inr (.long, vs.set N (.long x)))) Q) : W0 rm 70 [l0, l1, l2, l3, l4, l5, l6, l7, l8, l9, l10, l11, l12, l13, l14, l15, l16, l17, l18, l19, l20, l21, l22, l23, l24, l25, l26, l27] (.long x :: .int j :: .ref i :: S) H Q := W.lastore at_70 hH hj hl h
theorem s0_71 {rm : Room} {S : List Value} {H : AHeap} {Q : Option Value → AHeap → Prop} {l0 l1 l2 l3 l4 l5 l6 l7 l8 l9 l10 l11 l12 l13 l14 l15 l16 l17 l18 l19 l20 l21 l22 l23 l24 l25 l26 l27 : Slot} {v : Value} (hc : v.category = 1) (h : W0 rm 72 [l0, l1, l2, l3, l4, l5, l6, l7, l8, l9, l10, l11, l12, l13, l14, l15, l16, l17, l18, l19, l20, l21, l22, l23, l24, l25, l26, l27] (v :: v :: S) (H) Q) : W0 rm 71 [l0, l1, l2, l3, l4, l5, l6, l7, l8, l9, l10, l11, l12, l13, l14, l15, l16, l17, l18, l19, l20, l21, l22, l23, l24, l25, l26, l27] (v :: S) H Q := W.dup at_71 hc h
theorem s0_72 {rm : Room} {S : List Value} {H : AHeap} {Q : Option Value → AHeap → Prop} {l0 l1 l2 l3 l4 l5 l6 l7 l8 l9 l10 l11 l12 l13 l14 l15 l16 l17 l18 l19 l20 l21 l22 l23 l24 l25 l26 l27 : Slot}  (h : W0 rm 73 [l0, l1, l2, l3, l4, l5, l6, l7, l8, l9, l10, l11, l12, l13, l14, l15, l16, l17, l18, l19, l20, l21, l22, l23, l24, l25, l26, l27] (.int 4 :: S) (H) Q) : W0 rm 72 [l0, l1, l2, l3, l4, l5, l6, l7, l8, l9, l10, l11, l12, l13, l14, l15, l16, l17, l18, l19, l20, l21, l22, l23, l24, l25, l26, l27] (S) H Q := W.iconst' at_72 (by decide) h
theorem s0_73 {rm : Room} {S : List Value} {H : AHeap} {Q : Option Value → AHeap → Prop} {l0 l1 l2 l3 l4 l5 l6 l7 l8 l9 l10 l11 l12 l13 l14 l15 l16 l17 l18 l20 l21 l22 l23 l24 l25 l26 l27 : Slot} {x : Int64} (h : W0 rm 75 [l0, l1, l2, l3, l4, l5, l6, l7, l8, l9, l10, l11, l12, l13, l14, l15, l16, l17, l18, .val (.long x), l20, l21, l22, l23, l24, l25, l26, l27] (.long x :: S) (H) Q) : W0 rm 73 [l0, l1, l2, l3, l4, l5, l6, l7, l8, l9, l10, l11, l12, l13, l14, l15, l16, l17, l18, .val (.long x), l20, l21, l22, l23, l24, l25, l26, l27] (S) H Q := W.lload at_73 rfl h
theorem s0_75 {rm : Room} {S : List Value} {H : AHeap} {Q : Option Value → AHeap → Prop} {l0 l1 l2 l3 l4 l5 l6 l7 l8 l9 l10 l11 l12 l13 l14 l15 l16 l17 l18 l19 l20 l21 l22 l23 l24 l25 l26 l27 : Slot} {i : Nat} {j : Int32} {x : Int64} {vs : List Value} (N : Nat) (hH : H[i]? = some (.inr (.long, vs))) (hj : ix j N) (hl : Nat.blt N vs.length = true) (h : W0 rm 76 [l0, l1, l2, l3, l4, l5, l6, l7, l8, l9, l10, l11, l12, l13, l14, l15, l16, l17, l18, l19, l20, l21, l22, l23, l24, l25, l26, l27] (S) (H.set i (.inr (.long, vs.set N (.long x)))) Q) : W0 rm 75 [l0, l1, l2, l3, l4, l5, l6, l7, l8, l9, l10, l11, l12, l13, l14, l15, l16, l17, l18, l19, l20, l21, l22, l23, l24, l25, l26, l27] (.long x :: .int j :: .ref i :: S) H Q := W.lastore at_75 hH hj hl h
theorem s0_76 {rm : Room} {S : List Value} {H : AHeap} {Q : Option Value → AHeap → Prop} {l0 l1 l2 l3 l4 l5 l6 l7 l8 l9 l10 l11 l12 l13 l14 l15 l16 l17 l18 l19 l20 l21 l22 l23 l24 l25 l26 l27 : Slot} {i : Nat} (ho : one l21 = true) (h : W0 rm 78 [l0, l1, l2, l3, l4, l5, l6, l7, l8, l9, l10, l11, l12, l13, l14, l15, l16, l17, l18, l19, l20, .val (.ref i), l22, l23, l24, l25, l26, l27] (S) (H) Q) : W0 rm 76 [l0, l1, l2, l3, l4, l5, l6, l7, l8, l9, l10, l11, l12, l13, l14, l15, l16, l17, l18, l19, l20, l21, l22, l23, l24, l25, l26, l27] (.ref i :: S) H Q := W.astore at_76 rfl ho rfl h
theorem s0_78 {rm : Room} {S : List Value} {H : AHeap} {Q : Option Value → AHeap → Prop} {l0 l1 l2 l3 l4 l5 l6 l7 l8 l9 l10 l11 l12 l13 l14 l15 l16 l17 l18 l19 l20 l22 l23 l24 l25 l26 l27 : Slot} {i : Nat} (h : W0 rm 80 [l0, l1, l2, l3, l4, l5, l6, l7, l8, l9, l10, l11, l12, l13, l14, l15, l16, l17, l18, l19, l20, .val (.ref i), l22, l23, l24, l25, l26, l27] (.ref i :: S) (H) Q) : W0 rm 78 [l0, l1, l2, l3, l4, l5, l6, l7, l8, l9, l10, l11, l12, l13, l14, l15, l16, l17, l18, l19, l20, .val (.ref i), l22, l23, l24, l25, l26, l27] (S) H Q := W.aload at_78 rfl rfl h
theorem s0_78n {rm : Room} {S : List Value} {H : AHeap} {Q : Option Value → AHeap → Prop} {l0 l1 l2 l3 l4 l5 l6 l7 l8 l9 l10 l11 l12 l13 l14 l15 l16 l17 l18 l19 l20 l22 l23 l24 l25 l26 l27 : Slot}  (h : W0 rm 80 [l0, l1, l2, l3, l4, l5, l6, l7, l8, l9, l10, l11, l12, l13, l14, l15, l16, l17, l18, l19, l20, .val .null, l22, l23, l24, l25, l26, l27] (.null :: S) (H) Q) : W0 rm 78 [l0, l1, l2, l3, l4, l5, l6, l7, l8, l9, l10, l11, l12, l13, l14, l15, l16, l17, l18, l19, l20, .val .null, l22, l23, l24, l25, l26, l27] (S) H Q := W.aload at_78 rfl rfl h
theorem s0_80 {rm : Room} {S : List Value} {H : AHeap} {Q : Option Value → AHeap → Prop} {l0 l1 l2 l3 l4 l5 l6 l7 l8 l9 l10 l11 l12 l13 l14 l15 l16 l17 l18 l19 l20 l21 l22 l23 l24 l25 l26 l27 : Slot}  (h : W0 rm 81 [l0, l1, l2, l3, l4, l5, l6, l7, l8, l9, l10, l11, l12, l13, l14, l15, l16, l17, l18, l19, l20, l21, l22, l23, l24, l25, l26, l27] (.int 0 :: S) (H) Q) : W0 rm 80 [l0, l1, l2, l3, l4, l5, l6, l7, l8, l9, l10, l11, l12, l13, l14, l15, l16, l17, l18, l19, l20, l21, l22, l23, l24, l25, l26, l27] (S) H Q := W.iconst' at_80 (by decide) h
theorem s0_81 {rm : Room} {S : List Value} {H : AHeap} {Q : Option Value → AHeap → Prop} {l0 l1 l2 l3 l4 l5 l6 l7 l8 l9 l10 l11 l12 l13 l14 l15 l16 l17 l18 l19 l20 l21 l22 l23 l24 l25 l26 l27 : Slot}  (h : W0 rm 82 [l0, l1, l2, l3, l4, l5, l6, l7, l8, l9, l10, l11, l12, l13, l14, l15, l16, l17, l18, l19, l20, l21, l22, l23, l24, l25, l26, l27] (.int 1 :: S) (H) Q) : W0 rm 81 [l0, l1, l2, l3, l4, l5, l6, l7, l8, l9, l10, l11, l12, l13, l14, l15, l16, l17, l18, l19, l20, l21, l22, l23, l24, l25, l26, l27] (S) H Q := W.iconst' at_81 (by decide) h
theorem s0_82 {rm : Room} {S : List Value} {H : AHeap} {Q : Option Value → AHeap → Prop} {l0 l1 l2 l3 l4 l5 l6 l7 l8 l9 l10 l11 l12 l13 l14 l15 l16 l17 l18 l19 l20 l21 l22 l23 l24 l25 l26 l27 : Slot} {rm' : Room} {H' : AHeap} {a0 : Nat} {a1 : Int32} {a2 : Int32}  (hM : M2 rm' [.ref a0, .int a1, .int a2] H (Is none H')) (hr : rok rm rm' 5 S = true) (h : W0 (less rm rm') 85 [l0, l1, l2, l3, l4, l5, l6, l7, l8, l9, l10, l11, l12, l13, l14, l15, l16, l17, l18, l19, l20, l21, l22, l23, l24, l25, l26, l27] (S) H' Q) : W0 rm 82 [l0, l1, l2, l3, l4, l5, l6, l7, l8, l9, l10, l11, l12, l13, l14, l15, l16, l17, l18, l19, l20, l21, l22, l23, l24, l25, l26, l27] (.int a2 :: .int a1 :: .ref a0 :: S) H Q := W.callS (S := S) (as := [.ref a0, .int a1, .int a2]) (rm' := rm') at_82 (List.mem_of_getElem? (i := 6) rfl) (List.mem_of_getElem? (i := 7) rfl) (List.mem_of_getElem? (i := 2) rfl) (List.mem_of_getElem? (i := 8) rfl) (by decide) pd2 rfl rfl hM hr (fun _ _ q => by obtain ⟨rfl, rfl⟩ := q; exact h)
theorem s0_82q {rm : Room} {S : List Value} {H : AHeap} {Q : Option Value → AHeap → Prop} {l0 l1 l2 l3 l4 l5 l6 l7 l8 l9 l10 l11 l12 l13 l14 l15 l16 l17 l18 l19 l20 l21 l22 l23 l24 l25 l26 l27 : Slot} {rm' : Room} {Q' : Option Value → AHeap → Prop} {a0 a1 a2 : Value} (hM : M2 rm' [a0, a1, a2] H Q') (hr : rok rm rm' 5 S = true) (h : ∀ v H', Q' v H' → W0 (less rm rm') 85 [l0, l1, l2, l3, l4, l5, l6, l7, l8, l9, l10, l11, l12, l13, l14, l15, l16, l17, l18, l19, l20, l21, l22, l23, l24, l25, l26, l27] (v.toList ++ S) H' Q) : W0 rm 82 [l0, l1, l2, l3, l4, l5, l6, l7, l8, l9, l10, l11, l12, l13, l14, l15, l16, l17, l18, l19, l20, l21, l22, l23, l24, l25, l26, l27] (a2 :: a1 :: a0 :: S) H Q := W.callS (S := S) (as := [a0, a1, a2]) (rm' := rm') at_82 (List.mem_of_getElem? (i := 6) rfl) (List.mem_of_getElem? (i := 7) rfl) (List.mem_of_getElem? (i := 2) rfl) (List.mem_of_getElem? (i := 8) rfl) (by decide) pd2 rfl rfl hM hr h
theorem s0_85 {rm : Room} {S : List Value} {H : AHeap} {Q : Option Value → AHeap → Prop} {l0 l1 l2 l3 l4 l5 l6 l7 l8 l9 l10 l11 l12 l13 l14 l15 l16 l17 l18 l19 l20 l22 l23 l24 l25 l26 l27 : Slot} {i : Nat} (h : W0 rm 87 [l0, l1, l2, l3, l4, l5, l6, l7, l8, l9, l10, l11, l12, l13, l14, l15, l16, l17, l18, l19, l20, .val (.ref i), l22, l23, l24, l25, l26, l27] (.ref i :: S) (H) Q) : W0 rm 85 [l0, l1, l2, l3, l4, l5, l6, l7, l8, l9, l10, l11, l12, l13, l14, l15, l16, l17, l18, l19, l20, .val (.ref i), l22, l23, l24, l25, l26, l27] (S) H Q := W.aload at_85 rfl rfl h
theorem s0_85n {rm : Room} {S : List Value} {H : AHeap} {Q : Option Value → AHeap → Prop} {l0 l1 l2 l3 l4 l5 l6 l7 l8 l9 l10 l11 l12 l13 l14 l15 l16 l17 l18 l19 l20 l22 l23 l24 l25 l26 l27 : Slot}  (h : W0 rm 87 [l0, l1, l2, l3, l4, l5, l6, l7, l8, l9, l10, l11, l12, l13, l14, l15, l16, l17, l18, l19, l20, .val .null, l22, l23, l24, l25, l26, l27] (.null :: S) (H) Q) : W0 rm 85 [l0, l1, l2, l3, l4, l5, l6, l7, l8, l9, l10, l11, l12, l13, l14, l15, l16, l17, l18, l19, l20, .val .null, l22, l23, l24, l25, l26, l27] (S) H Q := W.aload at_85 rfl rfl h
theorem s0_87 {rm : Room} {S : List Value} {H : AHeap} {Q : Option Value → AHeap → Prop} {l0 l1 l2 l3 l4 l5 l6 l7 l8 l9 l10 l11 l12 l13 l14 l15 l16 l17 l18 l19 l20 l21 l22 l23 l24 l25 l26 l27 : Slot}  (h : W0 rm 88 [l0, l1, l2, l3, l4, l5, l6, l7, l8, l9, l10, l11, l12, l13, l14, l15, l16, l17, l18, l19, l20, l21, l22, l23, l24, l25, l26, l27] (.int 1 :: S) (H) Q) : W0 rm 87 [l0, l1, l2, l3, l4, l5, l6, l7, l8, l9, l10, l11, l12, l13, l14, l15, l16, l17, l18, l19, l20, l21, l22, l23, l24, l25, l26, l27] (S) H Q := W.iconst' at_87 (by decide) h
theorem s0_88 {rm : Room} {S : List Value} {H : AHeap} {Q : Option Value → AHeap → Prop} {l0 l1 l2 l3 l4 l5 l6 l7 l8 l9 l10 l11 l12 l13 l14 l15 l16 l17 l18 l19 l20 l21 l22 l23 l24 l25 l26 l27 : Slot}  (h : W0 rm 89 [l0, l1, l2, l3, l4, l5, l6, l7, l8, l9, l10, l11, l12, l13, l14, l15, l16, l17, l18, l19, l20, l21, l22, l23, l24, l25, l26, l27] (.int 2 :: S) (H) Q) : W0 rm 88 [l0, l1, l2, l3, l4, l5, l6, l7, l8, l9, l10, l11, l12, l13, l14, l15, l16, l17, l18, l19, l20, l21, l22, l23, l24, l25, l26, l27] (S) H Q := W.iconst' at_88 (by decide) h
theorem s0_89 {rm : Room} {S : List Value} {H : AHeap} {Q : Option Value → AHeap → Prop} {l0 l1 l2 l3 l4 l5 l6 l7 l8 l9 l10 l11 l12 l13 l14 l15 l16 l17 l18 l19 l20 l21 l22 l23 l24 l25 l26 l27 : Slot} {rm' : Room} {H' : AHeap} {a0 : Nat} {a1 : Int32} {a2 : Int32}  (hM : M2 rm' [.ref a0, .int a1, .int a2] H (Is none H')) (hr : rok rm rm' 5 S = true) (h : W0 (less rm rm') 92 [l0, l1, l2, l3, l4, l5, l6, l7, l8, l9, l10, l11, l12, l13, l14, l15, l16, l17, l18, l19, l20, l21, l22, l23, l24, l25, l26, l27] (S) H' Q) : W0 rm 89 [l0, l1, l2, l3, l4, l5, l6, l7, l8, l9, l10, l11, l12, l13, l14, l15, l16, l17, l18, l19, l20, l21, l22, l23, l24, l25, l26, l27] (.int a2 :: .int a1 :: .ref a0 :: S) H Q := W.callS (S := S) (as := [.ref a0, .int a1, .int a2]) (rm' := rm') at_89 (List.mem_of_getElem? (i := 6) rfl) (List.mem_of_getElem? (i := 7) rfl) (List.mem_of_getElem? (i := 2) rfl) (List.mem_of_getElem? (i := 8) rfl) (by decide) pd2 rfl rfl hM hr (fun _ _ q => by obtain ⟨rfl, rfl⟩ := q; exact h)
theorem s0_89q {rm : Room} {S : List Value} {H : AHeap} {Q : Option Value → AHeap → Prop} {l0 l1 l2 l3 l4 l5 l6 l7 l8 l9 l10 l11 l12 l13 l14 l15 l16 l17 l18 l19 l20 l21 l22 l23 l24 l25 l26 l27 : Slot} {rm' : Room} {Q' : Option Value → AHeap → Prop} {a0 a1 a2 : Value} (hM : M2 rm' [a0, a1, a2] H Q') (hr : rok rm rm' 5 S = true) (h : ∀ v H', Q' v H' → W0 (less rm rm') 92 [l0, l1, l2, l3, l4, l5, l6, l7, l8, l9, l10, l11, l12, l13, l14, l15, l16, l17, l18, l19, l20, l21, l22, l23, l24, l25, l26, l27] (v.toList ++ S) H' Q) : W0 rm 89 [l0, l1, l2, l3, l4, l5, l6, l7, l8, l9, l10, l11, l12, l13, l14, l15, l16, l17, l18, l19, l20, l21, l22, l23, l24, l25, l26, l27] (a2 :: a1 :: a0 :: S) H Q := W.callS (S := S) (as := [a0, a1, a2]) (rm' := rm') at_89 (List.mem_of_getElem? (i := 6) rfl) (List.mem_of_getElem? (i := 7) rfl) (List.mem_of_getElem? (i := 2) rfl) (List.mem_of_getElem? (i := 8) rfl) (by decide) pd2 rfl rfl hM hr h
theorem s0_92 {rm : Room} {S : List Value} {H : AHeap} {Q : Option Value → AHeap → Prop} {l0 l1 l2 l3 l4 l5 l6 l7 l8 l9 l10 l11 l12 l13 l14 l15 l16 l17 l18 l19 l20 l22 l23 l24 l25 l26 l27 : Slot} {i : Nat} (h : W0 rm 94 [l0, l1, l2, l3, l4, l5, l6, l7, l8, l9, l10, l11, l12, l13, l14, l15, l16, l17, l18, l19, l20, .val (.ref i), l22, l23, l24, l25, l26, l27] (.ref i :: S) (H) Q) : W0 rm 92 [l0, l1, l2, l3, l4, l5, l6, l7, l8, l9, l10, l11, l12, l13, l14, l15, l16, l17, l18, l19, l20, .val (.ref i), l22, l23, l24, l25, l26, l27] (S) H Q := W.aload at_92 rfl rfl h
theorem s0_92n {rm : Room} {S : List Value} {H : AHeap} {Q : Option Value → AHeap → Prop} {l0 l1 l2 l3 l4 l5 l6 l7 l8 l9 l10 l11 l12 l13 l14 l15 l16 l17 l18 l19 l20 l22 l23 l24 l25 l26 l27 : Slot}  (h : W0 rm 94 [l0, l1, l2, l3, l4, l5, l6, l7, l8, l9, l10, l11, l12, l13, l14, l15, l16, l17, l18, l19, l20, .val .null, l22, l23, l24, l25, l26, l27] (.null :: S) (H) Q) : W0 rm 92 [l0, l1, l2, l3, l4, l5, l6, l7, l8, l9, l10, l11, l12, l13, l14, l15, l16, l17, l18, l19, l20, .val .null, l22, l23, l24, l25, l26, l27] (S) H Q := W.aload at_92 rfl rfl h
theorem s0_94 {rm : Room} {S : List Value} {H : AHeap} {Q : Option Value → AHeap → Prop} {l0 l1 l2 l3 l4 l5 l6 l7 l8 l9 l10 l11 l12 l13 l14 l15 l16 l17 l18 l19 l20 l21 l22 l23 l24 l25 l26 l27 : Slot}  (h : W0 rm 95 [l0, l1, l2, l3, l4, l5, l6, l7, l8, l9, l10, l11, l12, l13, l14, l15, l16, l17, l18, l19, l20, l21, l22, l23, l24, l25, l26, l27] (.int 2 :: S) (H) Q) : W0 rm 94 [l0, l1, l2, l3, l4, l5, l6, l7, l8, l9, l10, l11, l12, l13, l14, l15, l16, l17, l18, l19, l20, l21, l22, l23, l24, l25, l26, l27] (S) H Q := W.iconst' at_94 (by decide) h
theorem s0_95 {rm : Room} {S : List Value} {H : AHeap} {Q : Option Value → AHeap → Prop} {l0 l1 l2 l3 l4 l5 l6 l7 l8 l9 l10 l11 l12 l13 l14 l15 l16 l17 l18 l19 l20 l21 l22 l23 l24 l25 l26 l27 : Slot}  (h : W0 rm 96 [l0, l1, l2, l3, l4, l5, l6, l7, l8, l9, l10, l11, l12, l13, l14, l15, l16, l17, l18, l19, l20, l21, l22, l23, l24, l25, l26, l27] (.int 3 :: S) (H) Q) : W0 rm 95 [l0, l1, l2, l3, l4, l5, l6, l7, l8, l9, l10, l11, l12, l13, l14, l15, l16, l17, l18, l19, l20, l21, l22, l23, l24, l25, l26, l27] (S) H Q := W.iconst' at_95 (by decide) h
theorem s0_96 {rm : Room} {S : List Value} {H : AHeap} {Q : Option Value → AHeap → Prop} {l0 l1 l2 l3 l4 l5 l6 l7 l8 l9 l10 l11 l12 l13 l14 l15 l16 l17 l18 l19 l20 l21 l22 l23 l24 l25 l26 l27 : Slot} {rm' : Room} {H' : AHeap} {a0 : Nat} {a1 : Int32} {a2 : Int32}  (hM : M2 rm' [.ref a0, .int a1, .int a2] H (Is none H')) (hr : rok rm rm' 5 S = true) (h : W0 (less rm rm') 99 [l0, l1, l2, l3, l4, l5, l6, l7, l8, l9, l10, l11, l12, l13, l14, l15, l16, l17, l18, l19, l20, l21, l22, l23, l24, l25, l26, l27] (S) H' Q) : W0 rm 96 [l0, l1, l2, l3, l4, l5, l6, l7, l8, l9, l10, l11, l12, l13, l14, l15, l16, l17, l18, l19, l20, l21, l22, l23, l24, l25, l26, l27] (.int a2 :: .int a1 :: .ref a0 :: S) H Q := W.callS (S := S) (as := [.ref a0, .int a1, .int a2]) (rm' := rm') at_96 (List.mem_of_getElem? (i := 6) rfl) (List.mem_of_getElem? (i := 7) rfl) (List.mem_of_getElem? (i := 2) rfl) (List.mem_of_getElem? (i := 8) rfl) (by decide) pd2 rfl rfl hM hr (fun _ _ q => by obtain ⟨rfl, rfl⟩ := q; exact h)
theorem s0_96q {rm : Room} {S : List Value} {H : AHeap} {Q : Option Value → AHeap → Prop} {l0 l1 l2 l3 l4 l5 l6 l7 l8 l9 l10 l11 l12 l13 l14 l15 l16 l17 l18 l19 l20 l21 l22 l23 l24 l25 l26 l27 : Slot} {rm' : Room} {Q' : Option Value → AHeap → Prop} {a0 a1 a2 : Value} (hM : M2 rm' [a0, a1, a2] H Q') (hr : rok rm rm' 5 S = true) (h : ∀ v H', Q' v H' → W0 (less rm rm') 99 [l0, l1, l2, l3, l4, l5, l6, l7, l8, l9, l10, l11, l12, l13, l14, l15, l16, l17, l18, l19, l20, l21, l22, l23, l24, l25, l26, l27] (v.toList ++ S) H' Q) : W0 rm 96 [l0, l1, l2, l3, l4, l5, l6, l7, l8, l9, l10, l11, l12, l13, l14, l15, l16, l17, l18, l19, l20, l21, l22, l23, l24, l25, l26, l27] (a2 :: a1 :: a0 :: S) H Q := W.callS (S := S) (as := [a0, a1, a2]) (rm' := rm') at_96 (List.mem_of_getElem? (i := 6) rfl) (List.mem_of_getElem? (i := 7) rfl) (List.mem_of_getElem? (i := 2) rfl) (List.mem_of_getElem? (i := 8) rfl) (by decide) pd2 rfl rfl hM hr h
theorem s0_99 {rm : Room} {S : List Value} {H : AHeap} {Q : Option Value → AHeap → Prop} {l0 l1 l2 l3 l4 l5 l6 l7 l8 l9 l10 l11 l12 l13 l14 l15 l16 l17 l18 l19 l20 l22 l23 l24 l25 l26 l27 : Slot} {i : Nat} (h : W0 rm 101 [l0, l1, l2, l3, l4, l5, l6, l7, l8, l9, l10, l11, l12, l13, l14, l15, l16, l17, l18, l19, l20, .val (.ref i), l22, l23, l24, l25, l26, l27] (.ref i :: S) (H) Q) : W0 rm 99 [l0, l1, l2, l3, l4, l5, l6, l7, l8, l9, l10, l11, l12, l13, l14, l15, l16, l17, l18, l19, l20, .val (.ref i), l22, l23, l24, l25, l26, l27] (S) H Q := W.aload at_99 rfl rfl h
theorem s0_99n {rm : Room} {S : List Value} {H : AHeap} {Q : Option Value → AHeap → Prop} {l0 l1 l2 l3 l4 l5 l6 l7 l8 l9 l10 l11 l12 l13 l14 l15 l16 l17 l18 l19 l20 l22 l23 l24 l25 l26 l27 : Slot}  (h : W0 rm 101 [l0, l1, l2, l3, l4, l5, l6, l7, l8, l9, l10, l11, l12, l13, l14, l15, l16, l17, l18, l19, l20, .val .null, l22, l23, l24, l25, l26, l27] (.null :: S) (H) Q) : W0 rm 99 [l0, l1, l2, l3, l4, l5, l6, l7, l8, l9, l10, l11, l12, l13, l14, l15, l16, l17, l18, l19, l20, .val .null, l22, l23, l24, l25, l26, l27] (S) H Q := W.aload at_99 rfl rfl h
theorem s0_101 {rm : Room} {S : List Value} {H : AHeap} {Q : Option Value → AHeap → Prop} {l0 l1 l2 l3 l4 l5 l6 l7 l8 l9 l10 l11 l12 l13 l14 l15 l16 l17 l18 l19 l20 l21 l22 l23 l24 l25 l26 l27 : Slot}  (h : W0 rm 102 [l0, l1, l2, l3, l4, l5, l6, l7, l8, l9, l10, l11, l12, l13, l14, l15, l16, l17, l18, l19, l20, l21, l22, l23, l24, l25, l26, l27] (.int 3 :: S) (H) Q) : W0 rm 101 [l0, l1, l2, l3, l4, l5, l6, l7, l8, l9, l10, l11, l12, l13, l14, l15, l16, l17, l18, l19, l20, l21, l22, l23, l24, l25, l26, l27] (S) H Q := W.iconst' at_101 (by decide) h
theorem s0_102 {rm : Room} {S : List Value} {H : AHeap} {Q : Option Value → AHeap → Prop} {l0 l1 l2 l3 l4 l5 l6 l7 l8 l9 l10 l11 l12 l13 l14 l15 l16 l17 l18 l19 l20 l21 l22 l23 l24 l25 l26 l27 : Slot}  (h : W0 rm 103 [l0, l1, l2, l3, l4, l5, l6, l7, l8, l9, l10, l11, l12, l13, l14, l15, l16, l17, l18, l19, l20, l21, l22, l23, l24, l25, l26, l27] (.int 4 :: S) (H) Q) : W0 rm 102 [l0, l1, l2, l3, l4, l5, l6, l7, l8, l9, l10, l11, l12, l13, l14, l15, l16, l17, l18, l19, l20, l21, l22, l23, l24, l25, l26, l27] (S) H Q := W.iconst' at_102 (by decide) h
theorem s0_103 {rm : Room} {S : List Value} {H : AHeap} {Q : Option Value → AHeap → Prop} {l0 l1 l2 l3 l4 l5 l6 l7 l8 l9 l10 l11 l12 l13 l14 l15 l16 l17 l18 l19 l20 l21 l22 l23 l24 l25 l26 l27 : Slot} {rm' : Room} {H' : AHeap} {a0 : Nat} {a1 : Int32} {a2 : Int32}  (hM : M2 rm' [.ref a0, .int a1, .int a2] H (Is none H')) (hr : rok rm rm' 5 S = true) (h : W0 (less rm rm') 106 [l0, l1, l2, l3, l4, l5, l6, l7, l8, l9, l10, l11, l12, l13, l14, l15, l16, l17, l18, l19, l20, l21, l22, l23, l24, l25, l26, l27] (S) H' Q) : W0 rm 103 [l0, l1, l2, l3, l4, l5, l6, l7, l8, l9, l10, l11, l12, l13, l14, l15, l16, l17, l18, l19, l20, l21, l22, l23, l24, l25, l26, l27] (.int a2 :: .int a1 :: .ref a0 :: S) H Q := W.callS (S := S) (as := [.ref a0, .int a1, .int a2]) (rm' := rm') at_103 (List.mem_of_getElem? (i := 6) rfl) (List.mem_of_getElem? (i := 7) rfl) (List.mem_of_getElem? (i := 2) rfl) (List.mem_of_getElem? (i := 8) rfl) (by decide) pd2 rfl rfl hM hr (fun _ _ q => by obtain ⟨rfl, rfl⟩ := q; exact h)
theorem s0_103q {rm : Room} {S : List Value} {H : AHeap} {Q : Option Value → AHeap → Prop} {l0 l1 l2 l3 l4 l5 l6 l7 l8 l9 l10 l11 l12 l13 l14 l15 l16 l17 l18 l19 l20 l21 l22 l23 l24 l25 l26 l27 : Slot} {rm' : Room} {Q' : Option Value → AHeap → Prop} {a0 a1 a2 : Value} (hM : M2 rm' [a0, a1, a2] H Q') (hr : rok rm rm' 5 S = true) (h : ∀ v H', Q' v H' → W0 (less rm rm') 106 [l0, l1, l2, l3, l4, l5, l6, l7, l8, l9, l10, l11, l12, l13, l14, l15, l16, l17, l18, l19, l20, l21, l22, l23, l24, l25, l26, l27] (v.toList ++ S) H' Q) : W0 rm 103 [l0, l1, l2, l3, l4, l5, l6, l7, l8, l9, l10, l11, l12, l13, l14, l15, l16, l17, l18, l19, l20, l21, l22, l23, l24, l25, l26, l27] (a2 :: a1 :: a0 :: S) H Q := W.callS (S := S) (as := [a0, a1, a2]) (rm' := rm') at_103 (List.mem_of_getElem? (i := 6) rfl) (List.mem_of_getElem? (i := 7) rfl) (List.mem_of_getElem? (i := 2) rfl) (List.mem_of_getElem? (i := 8) rfl) (by decide) pd2 rfl rfl hM hr h
theorem s0_106 {rm : Room} {S : List Value} {H : AHeap} {Q : Option Value → AHeap → Prop} {l0 l1 l2 l3 l4 l5 l6 l7 l8 l9 l10 l11 l12 l13 l14 l15 l16 l17 l18 l19 l20 l22 l23 l24 l25 l26 l27 : Slot} {i : Nat} (h : W0 rm 108 [l0, l1, l2, l3, l4, l5, l6, l7, l8, l9, l10, l11, l12, l13, l14, l15, l16, l17, l18, l19, l20, .val (.ref i), l22, l23, l24, l25, l26, l27] (.ref i :: S) (H) Q) : W0 rm 106 [l0, l1, l2, l3, l4, l5, l6, l7, l8, l9, l10, l11, l12, l13, l14, l15, l16, l17, l18, l19, l20, .val (.ref i), l22, l23, l24, l25, l26, l27] (S) H Q := W.aload at_106 rfl rfl h
theorem s0_106n {rm : Room} {S : List Value} {H : AHeap} {Q : Option Value → AHeap → Prop} {l0 l1 l2 l3 l4 l5 l6 l7 l8 l9 l10 l11 l12 l13 l14 l15 l16 l17 l18 l19 l20 l22 l23 l24 l25 l26 l27 : Slot}  (h : W0 rm 108 [l0, l1, l2, l3, l4, l5, l6, l7, l8, l9, l10, l11, l12, l13, l14, l15, l16, l17, l18, l19, l20, .val .null, l22, l23, l24, l25, l26, l27] (.null :: S) (H) Q) : W0 rm 106 [l0, l1, l2, l3, l4, l5, l6, l7, l8, l9, l10, l11, l12, l13, l14, l15, l16, l17, l18, l19, l20, .val .null, l22, l23, l24, l25, l26, l27] (S) H Q := W.aload at_106 rfl rfl h
theorem s0_108 {rm : Room} {S : List Value} {H : AHeap} {Q : Option Value → AHeap → Prop} {l0 l1 l2 l3 l4 l5 l6 l7 l8 l9 l10 l11 l12 l13 l14 l15 l16 l17 l18 l19 l20 l21 l22 l23 l24 l25 l26 l27 : Slot}  (h : W0 rm 109 [l0, l1, l2, l3, l4, l5, l6, l7, l8, l9, l10, l11, l12, l13, l14, l15, l16, l17, l18, l19, l20, l21, l22, l23, l24, l25, l26, l27] (.int 0 :: S) (H) Q) : W0 rm 108 [l0, l1, l2, l3, l4, l5, l6, l7, l8, l9, l10, l11, l12, l13, l14, l15, l16, l17, l18, l19, l20, l21, l22, l23, l24, l25, l26, l27] (S) H Q := W.iconst' at_108 (by decide) h
theorem s0_109 {rm : Room} {S : List Value} {H : AHeap} {Q : Option Value → AHeap → Prop} {l0 l1 l2 l3 l4 l5 l6 l7 l8 l9 l10 l11 l12 l13 l14 l15 l16 l17 l18 l19 l20 l21 l22 l23 l24 l25 l26 l27 : Slot}  (h : W0 rm 110 [l0, l1, l2, l3, l4, l5, l6, l7, l8, l9, l10, l11, l12, l13, l14, l15, l16, l17, l18, l19, l20, l21, l22, l23, l24, l25, l26, l27] (.int 1 :: S) (H) Q) : W0 rm 109 [l0, l1, l2, l3, l4, l5, l6, l7, l8, l9, l10, l11, l12, l13, l14, l15, l16, l17, l18, l19, l20, l21, l22, l23, l24, l25, l26, l27] (S) H Q := W.iconst' at_109 (by decide) h
theorem s0_110 {rm : Room} {S : List Value} {H : AHeap} {Q : Option Value → AHeap → Prop} {l0 l1 l2 l3 l4 l5 l6 l7 l8 l9 l10 l11 l12 l13 l14 l15 l16 l17 l18 l19 l20 l21 l22 l23 l24 l25 l26 l27 : Slot} {rm' : Room} {H' : AHeap} {a0 : Nat} {a1 : Int32} {a2 : Int32}  (hM : M2 rm' [.ref a0, .int a1, .int a2] H (Is none H')) (hr : rok rm rm' 5 S = true) (h : W0 (less rm rm') 113 [l0, l1, l2, l3, l4, l5, l6, l7, l8, l9, l10, l11, l12, l13, l14, l15, l16, l17, l18, l19, l20, l21, l22, l23, l24, l25, l26, l27] (S) H' Q) : W0 rm 110 [l0, l1, l2, l3, l4, l5, l6, l7, l8, l9, l10, l11, l12, l13, l14, l15, l16, l17, l18, l19, l20, l21, l22, l23, l24, l25, l26, l27] (.int a2 :: .int a1 :: .ref a0 :: S) H Q := W.callS (S := S) (as := [.ref a0, .int a1, .int a2]) (rm' := rm') at_110 (List.mem_of_getElem? (i := 6) rfl) (List.mem_of_getElem? (i := 7) rfl) (List.mem_of_getElem? (i := 2) rfl) (List.mem_of_getElem? (i := 8) rfl) (by decide) pd2 rfl rfl hM hr (fun _ _ q => by obtain ⟨rfl, rfl⟩ := q; exact h)
theorem s0_110q {rm : Room} {S : List Value} {H : AHeap} {Q : Option Value → AHeap → Prop} {l0 l1 l2 l3 l4 l5 l6 l7 l8 l9 l10 l11 l12 l13 l14 l15 l16 l17 l18 l19 l20 l21 l22 l23 l24 l25 l26 l27 : Slot} {rm' : Room} {Q' : Option Value → AHeap → Prop} {a0 a1 a2 : Value} (hM : M2 rm' [a0, a1, a2] H Q') (hr : rok rm rm' 5 S = true) (h : ∀ v H', Q' v H' → W0 (less rm rm') 113 [l0, l1, l2, l3, l4, l5, l6, l7, l8, l9, l10, l11, l12, l13, l14, l15, l16, l17, l18, l19, l20, l21, l22, l23, l24, l25, l26, l27] (v.toList ++ S) H' Q) : W0 rm 110 [l0, l1, l2, l3, l4, l5, l6, l7, l8, l9, l10, l11, l12, l13, l14, l15, l16, l17, l18, l19, l20, l21, l22, l23, l24, l25, l26, l27] (a2 :: a1 :: a0 :: S) H Q := W.callS (S := S) (as := [a0, a1, a2]) (rm' := rm') at_110 (List.mem_of_getElem? (i := 6) rfl) (List.mem_of_getElem? (i := 7) rfl) (List.mem_of_getElem? (i := 2) rfl) (List.mem_of_getElem? (i := 8) rfl) (by decide) pd2 rfl rfl hM hr h
theorem s0_113 {rm : Room} {S : List Value} {H : AHeap} {Q : Option Value → AHeap → Prop} {l0 l1 l2 l3 l4 l5 l6 l7 l8 l9 l10 l11 l12 l13 l14 l15 l16 l17 l18 l19 l20 l22 l23 l24 l25 l26 l27 : Slot} {i : Nat} (h : W0 rm 115 [l0, l1, l2, l3, l4, l5, l6, l7, l8, l9, l10, l11, l12, l13, l14, l15, l16, l17, l18, l19, l20, .val (.ref i), l22, l23, l24, l25, l26, l27] (.ref i :: S) (H) Q) : W0 rm 113 [l0, l1, l2, l3, l4, l5, l6, l7, l8, l9, l10, l11, l12, l13, l14, l15, l16, l17, l18, l19, l20, .val (.ref i), l22, l23, l24, l25, l26, l27] (S) H Q := W.aload at_113 rfl rfl h
theorem s0_113n {rm : Room} {S : List Value} {H : AHeap} {Q : Option Value → AHeap → Prop} {l0 l1 l2 l3 l4 l5 l6 l7 l8 l9 l10 l11 l12 l13 l14 l15 l16 l17 l18 l19 l20 l22 l23 l24 l25 l26 l27 : Slot}  (h : W0 rm 115 [l0, l1, l2, l3, l4, l5, l6, l7, l8, l9, l10, l11, l12, l13, l14, l15, l16, l17, l18, l19, l20, .val .null, l22, l23, l24, l25, l26, l27] (.null :: S) (H) Q) : W0 rm 113 [l0, l1, l2, l3, l4, l5, l6, l7, l8, l9, l10, l11, l12, l13, l14, l15, l16, l17, l18, l19, l20, .val .null, l22, l23, l24, l25, l26, l27] (S) H Q := W.aload at_113 rfl rfl h
theorem s0_115 {rm : Room} {S : List Value} {H : AHeap} {Q : Option Value → AHeap → Prop} {l0 l1 l2 l3 l4 l5 l6 l7 l8 l9 l10 l11 l12 l13 l14 l15 l16 l17 l18 l19 l20 l21 l22 l23 l24 l25 l26 l27 : Slot}  (h : W0 rm 116 [l0, l1, l2, l3, l4, l5, l6, l7, l8, l9, l10, l11, l12, l13, l14, l15, l16, l17, l18, l19, l20, l21, l22, l23, l24, l25, l26, l27] (.int 1 :: S) (H) Q) : W0 rm 115 [l0, l1, l2, l3, l4, l5, l6, l7, l8, l9, l10, l11, l12, l13, l14, l15, l16, l17, l18, l19, l20, l21, l22, l23, l24, l25, l26, l27] (S) H Q := W.iconst' at_115 (by decide) h
theorem s0_116 {rm : Room} {S : List Value} {H : AHeap} {Q : Option Value → AHeap → Prop} {l0 l1 l2 l3 l4 l5 l6 l7 l8 l9 l10 l11 l12 l13 l14 l15 l16 l17 l18 l19 l20 l21 l22 l23 l24 l25 l26 l27 : Slot}  (h : W0 rm 117 [l0, l1, l2, l3, l4, l5, l6, l7, l8, l9, l10, l11, l12, l13, l14, l15, l16, l17, l18, l19, l20, l21, l22, l23, l24, l25, l26, l27] (.int 2 :: S) (H) Q) : W0 rm 116 [l0, l1, l2, l3, l4, l5, l6, l7, l8, l9, l10, l11, l12, l13, l14, l15, l16, l17, l18, l19, l20, l21, l22, l23, l24, l25, l26, l27] (S) H Q := W.iconst' at_116 (by decide) h
theorem s0_117 {rm : Room} {S : List Value} {H : AHeap} {Q : Option Value → AHeap → Prop} {l0 l1 l2 l3 l4 l5 l6 l7 l8 l9 l10 l11 l12 l13 l14 l15 l16 l17 l18 l19 l20 l21 l22 l23 l24 l25 l26 l27 : Slot} {rm' : Room} {H' : AHeap} {a0 : Nat} {a1 : Int32} {a2 : Int32}  (hM : M2 rm' [.ref a0, .int a1, .int a2] H (Is none H')) (hr : rok rm rm' 5 S = true) (h : W0 (less rm rm') 120 [l0, l1, l2, l3, l4, l5, l6, l7, l8, l9, l10, l11, l12, l13, l14, l15, l16, l17, l18, l19, l20, l21, l22, l23, l24, l25, l26, l27] (S) H' Q) : W0 rm 117 [l0, l1, l2, l3, l4, l5, l6, l7, l8, l9, l10, l11, l12, l13, l14, l15, l16, l17, l18, l19, l20, l21, l22, l23, l24, l25, l26, l27] (.int a2 :: .int a1 :: .ref a0 :: S) H Q := W.callS (S := S) (as := [.ref a0, .int a1, .int a2]) (rm' := rm') at_117 (List.mem_of_getElem? (i := 6) rfl) (List.mem_of_getElem? (i := 7) rfl) (List.mem_of_getElem? (i := 2) rfl) (List.mem_of_getElem? (i := 8) rfl) (by decide) pd2 rfl rfl hM hr (fun _ _ q => by obtain ⟨rfl, rfl⟩ := q; exact h)
theorem s0_117q {rm : Room} {S : List Value} {H : AHeap} {Q : Option Value → AHeap → Prop} {l0 l1 l2 l3 l4 l5 l6 l7 l8 l9 l10 l11 l12 l13 l14 l15 l16 l17 l18 l19 l20 l21 l22 l23 l24 l25 l26 l27 : Slot} {rm' : Room} {Q' : Option Value → AHeap → Prop} {a0 a1 a2 : Value} (hM : M2 rm' [a0, a1, a2] H Q') (hr : rok rm rm' 5 S = true) (h : ∀ v H', Q' v H' → W0 (less rm rm') 120 [l0, l1, l2, l3, l4, l5, l6, l7, l8, l9, l10, l11, l12, l13, l14, l15, l16, l17, l18, l19, l20, l21, l22, l23, l24, l25, l26, l27] (v.toList ++ S) H' Q) : W0 rm 117 [l0, l1, l2, l3, l4, l5, l6, l7, l8, l9, l10, l11, l12, l13, l14, l15, l16, l17, l18, l19, l20, l21, l22, l23, l24, l25, l26, l27] (a2 :: a1 :: a0 :: S) H Q := W.callS (S := S) (as := [a0, a1, a2]) (rm' := rm') at_117 (List.mem_of_getElem? (i := 6) rfl) (List.mem_of_getElem? (i := 7) rfl) (List.mem_of_getElem? (i := 2) rfl) (List.mem_of_getElem? (i := 8) rfl) (by decide) pd2 rfl rfl hM hr h
theorem s0_120 {rm : Room} {S : List Value} {H : AHeap} {Q : Option Value → AHeap → Prop} {l0 l1 l2 l3 l4 l5 l6 l7 l8 l9 l10 l11 l12 l13 l14 l15 l16 l17 l18 l19 l20 l22 l23 l24 l25 l26 l27 : Slot} {i : Nat} (h : W0 rm 122 [l0, l1, l2, l3, l4, l5, l6, l7, l8, l9, l10, l11, l12, l13, l14, l15, l16, l17, l18, l19, l20, .val (.ref i), l22, l23, l24, l25, l26, l27] (.ref i :: S) (H) Q) : W0 rm 120 [l0, l1, l2, l3, l4, l5, l6, l7, l8, l9, l10, l11, l12, l13, l14, l15, l16, l17, l18, l19, l20, .val (.ref i), l22, l23, l24, l25, l26, l27] (S) H Q := W.aload at_120 rfl rfl h
theorem s0_120n {rm : Room} {S : List Value} {H : AHeap} {Q : Option Value → AHeap → Prop} {l0 l1 l2 l3 l4 l5 l6 l7 l8 l9 l10 l11 l12 l13 l14 l15 l16 l17 l18 l19 l20 l22 l23 l24 l25 l26 l27 : Slot}  (h : W0 rm 122 [l0, l1, l2, l3, l4, l5, l6, l7, l8, l9, l10, l11, l12, l13, l14, l15, l16, l17, l18, l19, l20, .val .null, l22, l23, l24, l25, l26, l27] (.null :: S) (H) Q) : W0 rm 120 [l0, l1, l2, l3, l4, l5, l6, l7, l8, l9, l10, l11, l12, l13, l14, l15, l16, l17, l18, l19, l20, .val .null, l22, l23, l24, l25, l26, l27] (S) H Q := W.aload at_120 rfl rfl h
theorem s0_122 {rm : Room} {S : List Value} {H : AHeap} {Q : Option Value → AHeap → Prop} {l0 l1 l2 l3 l4 l5 l6 l7 l8 l9 l10 l11 l12 l13 l14 l15 l16 l17 l18 l19 l20 l21 l22 l23 l24 l25 l26 l27 : Slot}  (h : W0 rm 123 [l0, l1, l2, l3, l4, l5, l6, l7, l8, l9, l10, l11, l12, l13, l14, l15, l16, l17, l18, l19, l20, l21, l22, l23, l24, l25, l26, l27] (.int 2 :: S) (H) Q) : W0 rm 122 [l0, l1, l2, l3, l4, l5, l6, l7, l8, l9, l10, l11, l12, l13, l14, l15, l16, l17, l18, l19, l20, l21, l22, l23, l24, l25, l26, l27] (S) H Q := W.iconst' at_122 (by decide) h
theorem s0_123 {rm : Room} {S : List Value} {H : AHeap} {Q : Option Value → AHeap → Prop} {l0 l1 l2 l3 l4 l5 l6 l7 l8 l9 l10 l11 l12 l13 l14 l15 l16 l17 l18 l19 l20 l21 l22 l23 l24 l25 l26 l27 : Slot}  (h : W0 rm 124 [l0, l1, l2, l3, l4, l5, l6, l7, l8, l9, l10, l11, l12, l13, l14, l15, l16, l17, l18, l19, l20, l21, l22, l23, l24, l25, l26, l27] (.int 3 :: S) (H) Q) : W0 rm 123 [l0, l1, l2, l3, l4, l5, l6, l7, l8, l9, l10, l11, l12, l13, l14, l15, l16, l17, l18, l19, l20, l21, l22, l23, l24, l25, l26, l27] (S) H Q := W.iconst' at_123 (by decide) h
theorem s0_124 {rm : Room} {S : List Value} {H : AHeap} {Q : Option Value → AHeap → Prop} {l0 l1 l2 l3 l4 l5 l6 l7 l8 l9 l10 l11 l12 l13 l14 l15 l16 l17 l18 l19 l20 l21 l22 l23 l24 l25 l26 l27 : Slot} {rm' : Room} {H' : AHeap} {a0 : Nat} {a1 : Int32} {a2 : Int32}  (hM : M2 rm' [.ref a0, .int a1, .int a2] H (Is none H')) (hr : rok rm rm' 5 S = true) (h : W0 (less rm rm') 127 [l0, l1, l2, l3, l4, l5, l6, l7, l8, l9, l10, l11, l12, l13, l14, l15, l16, l17, l18, l19, l20, l21, l22, l23, l24, l25, l26, l27] (S) H' Q) : W0 rm 124 [l0, l1, l2, l3, l4, l5, l6, l7, l8, l9, l10, l11, l12, l13, l14, l15, l16, l17, l18, l19, l20, l21, l22, l23, l24, l25, l26, l27] (.int a2 :: .int a1 :: .ref a0 :: S) H Q := W.callS (S := S) (as := [.ref a0, .int a1, .int a2]) (rm' := rm') at_124 (List.mem_of_getElem? (i := 6) rfl) (List.mem_of_getElem? (i := 7) rfl) (List.mem_of_getElem? (i := 2) rfl) (List.mem_of_getElem? (i := 8) rfl) (by decide) pd2 rfl rfl hM hr (fun _ _ q => by obtain ⟨rfl, rfl⟩ := q; exact h)
theorem s0_124q {rm : Room} {S : List Value} {H : AHeap} {Q : Option Value → AHeap → Prop} {l0 l1 l2 l3 l4 l5 l6 l7 l8 l9 l10 l11 l12 l13 l14 l15 l16 l17 l18 l19 l20 l21 l22 l23 l24 l25 l26 l27 : Slot} {rm' : Room} {Q' : Option Value → AHeap → Prop} {a0 a1 a2 : Value} (hM : M2 rm' [a0, a1, a2] H Q') (hr : rok rm rm' 5 S = true) (h : ∀ v H', Q' v H' → W0 (less rm rm') 127 [l0, l1, l2, l3, l4, l5, l6, l7, l8, l9, l10, l11, l12, l13, l14, l15, l16, l17, l18, l19, l20, l21, l22, l23, l24, l25, l26, l27] (v.toList ++ S) H' Q) : W0 rm 124 [l0, l1, l2, l3, l4, l5, l6, l7, l8, l9, l10, l11, l12, l13, l14, l15, l16, l17, l18, l19, l20, l21, l22, l23, l24, l25, l26, l27] (a2 :: a1 :: a0 :: S) H Q := W.callS (S := S) (as := [a0, a1, a2]) (rm' := rm') at_124 (List.mem_of_getElem? (i := 6) rfl) (List.mem_of_getElem? (i := 7) rfl) (List.mem_of_getElem? (i := 2) rfl) (List.mem_of_getElem? (i := 8) rfl) (by decide) pd2 rfl rfl hM hr h
theorem s0_127 {rm : Room} {S : List Value} {H : AHeap} {Q : Option Value → AHeap → Prop} {l0 l1 l2 l3 l4 l5 l6 l7 l8 l9 l10 l11 l12 l13 l14 l15 l16 l17 l18 l19 l20 l22 l23 l24 l25 l26 l27 : Slot} {i : Nat} (h : W0 rm 129 [l0, l1, l2, l3, l4, l5, l6, l7, l8, l9, l10, l11, l12, l13, l14, l15, l16, l17, l18, l19, l20, .val (.ref i), l22, l23, l24, l25, l26, l27] (.ref i :: S) (H) Q) : W0 rm 127 [l0, l1, l2, l3, l4, l5, l6, l7, l8, l9, l10, l11, l12, l13, l14, l15, l16, l17, l18, l19, l20, .val (.ref i), l22, l23, l24, l25, l26, l27] (S) H Q := W.aload at_127 rfl rfl h
theorem s0_127n {rm : Room} {S : List Value} {H : AHeap} {Q : Option Value → AHeap → Prop} {l0 l1 l2 l3 l4 l5 l6 l7 l8 l9 l10 l11 l12 l13 l14 l15 l16 l17 l18 l19 l20 l22 l23 l24 l25 l26 l27 : Slot}  (h : W0 rm 129 [l0, l1, l2, l3, l4, l5, l6, l7, l8, l9, l10, l11, l12, l13, l14, l15, l16, l17, l18, l19, l20, .val .null, l22, l23, l24, l25, l26, l27] (.null :: S) (H) Q) : W0 rm 127 [l0, l1, l2, l3, l4, l5, l6, l7, l8, l9, l10, l11, l12, l13, l14, l15, l16, l17, l18, l19, l20, .val .null, l22, l23, l24, l25, l26, l27] (S) H Q := W.aload at_127 rfl rfl h
theorem s0_129 {rm : Room} {S : List Value} {H : AHeap} {Q : Option Value → AHeap → Prop} {l0 l1 l2 l3 l4 l5 l6 l7 l8 l9 l10 l11 l12 l13 l14 l15 l16 l17 l18 l19 l20 l21 l22 l23 l24 l25 l26 l27 : Slot}  (h : W0 rm 130 [l0, l1, l2, l3, l4, l5, l6, l7, l8, l9, l10, l11, l12, l13, l14, l15, l16, l17, l18, l19, l20, l21, l22, l23, l24, l25, l26, l27] (.int 0 :: S) (H) Q) : W0 rm 129 [l0, l1, l2, l3, l4, l5, l6, l7, l8, l9, l10, l11, l12, l13, l14, l15, l16, l17, l18, l19, l20, l21, l22, l23, l24, l25, l26, l27] (S) H Q := W.iconst' at_129 (by decide) h
theorem s0_130 {rm : Room} {S : List Value} {H : AHeap} {Q : Option Value → AHeap → Prop} {l0 l1 l2 l3 l4 l5 l6 l7 l8 l9 l10 l11 l12 l13 l14 l15 l16 l17 l18 l19 l20 l21 l22 l23 l24 l25 l26 l27 : Slot}  (h : W0 rm 131 [l0, l1, l2, l3, l4, l5, l6, l7, l8, l9, l10, l11, l12, l13, l14, l15, l16, l17, l18, l19, l20, l21, l22, l23, l24, l25, l26, l27] (.int 1 :: S) (H) Q) : W0 rm 130 [l0, l1, l2, l3, l4, l5, l6, l7, l8, l9, l10, l11, l12, l13, l14, l15, l16, l17, l18, l19, l20, l21, l22, l23, l24, l25, l26, l27] (S) H Q := W.iconst' at_130 (by decide) h
theorem s0_131 {rm : Room} {S : List Value} {H : AHeap} {Q : Option Value → AHeap → Prop} {l0 l1 l2 l3 l4 l5 l6 l7 l8 l9 l10 l11 l12 l13 l14 l15 l16 l17 l18 l19 l20 l21 l22 l23 l24 l25 l26 l27 : Slot} {rm' : Room} {H' : AHeap} {a0 : Nat} {a1 : Int32} {a2 : Int32}  (hM : M2 rm' [.ref a0, .int a1, .int a2] H (Is none H')) (hr : rok rm rm' 5 S = true) (h : W0 (less rm rm') 134 [l0, l1, l2, l3, l4, l5, l6, l7, l8, l9, l10, l11, l12, l13, l14, l15, l16, l17, l18, l19, l20, l21, l22, l23, l24, l25, l26, l27] (S) H' Q) : W0 rm 131 [l0, l1, l2, l3, l4, l5, l6, l7, l8, l9, l10, l11, l12, l13, l14, l15, l16, l17, l18, l19, l20, l21, l22, l23, l24, l25, l26, l27] (.int a2 :: .int a1 :: .ref a0 :: S) H Q := W.callS (S := S) (as := [.ref a0, .int a1, .int a2]) (rm' := rm') at_131 (List.mem_of_getElem? (i := 6) rfl) (List.mem_of_getElem? (i := 7) rfl) (List.mem_of_getElem? (i := 2) rfl) (List.mem_of_getElem? (i := 8) rfl) (by decide) pd2 rfl rfl hM hr (fun _ _ q => by obtain ⟨rfl, rfl⟩ := q; exact h)
theorem s0_131q {rm : Room} {S : List Value} {H : AHeap} {Q : Option Value → AHeap → Prop} {l0 l1 l2 l3 l4 l5 l6 l7 l8 l9 l10 l11 l12 l13 l14 l15 l16 l17 l18 l19 l20 l21 l22 l23 l24 l25 l26 l27 : Slot} {rm' : Room} {Q' : Option Value → AHeap → Prop} {a0 a1 a2 : Value} (hM : M2 rm' [a0, a1, a2] H Q') (hr : rok rm rm' 5 S = true) (h : ∀ v H', Q' v H' → W0 (less rm rm') 134 [l0, l1, l2, l3, l4, l5, l6, l7, l8, l9, l10, l11, l12, l13, l14, l15, l16, l17, l18, l19, l20, l21, l22, l23, l24, l25, l26, l27] (v.toList ++ S) H' Q) : W0 rm 131 [l0, l1, l2, l3, l4, l5, l6, l7, l8, l9, l10, l11, l12, l13, l14, l15, l16, l17, l18, l19, l20, l21, l22, l23, l24, l25, l26, l27] (a2 :: a1 :: a0 :: S) H Q := W.callS (S := S) (as := [a0, a1, a2]) (rm' := rm') at_131 (List.mem_of_getElem? (i := 6) rfl) (List.mem_of_getElem? (i := 7) rfl) (List.mem_of_getElem? (i := 2) rfl) (List.mem_of_getElem? (i := 8) rfl) (by decide) pd2 rfl rfl hM hr h
theorem s0_134 {rm : Room} {S : List Value} {H : AHeap} {Q : Option Value → AHeap → Prop} {l0 l1 l2 l3 l4 l5 l6 l7 l8 l9 l10 l11 l12 l13 l14 l15 l16 l17 l18 l19 l20 l22 l23 l24 l25 l26 l27 : Slot} {i : Nat} (h : W0 rm 136 [l0, l1, l2, l3, l4, l5, l6, l7, l8, l9, l10, l11, l12, l13, l14, l15, l16, l17, l18, l19, l20, .val (.ref i), l22, l23, l24, l25, l26, l27] (.ref i :: S) (H) Q) : W0 rm 134 [l0, l1, l2, l3, l4, l5, l6, l7, l8, l9, l10, l11, l12, l13, l14, l15, l16, l17, l18, l19, l20, .val (.ref i), l22, l23, l24, l25, l26, l27] (S) H Q := W.aload at_134 rfl rfl h
theorem s0_134n {rm : Room} {S : List Value} {H : AHeap} {Q : Option Value → AHeap → Prop} {l0 l1 l2 l3 l4 l5 l6 l7 l8 l9 l10 l11 l12 l13 l14 l15 l16 l17 l18 l19 l20 l22 l23 l24 l25 l26 l27 : Slot}  (h : W0 rm 136 [l0, l1, l2, l3, l4, l5, l6, l7, l8, l9, l10, l11, l12, l13, l14, l15, l16, l17, l18, l19, l20, .val .null, l22, l23, l24, l25, l26, l27] (.null :: S) (H) Q) : W0 rm 134 [l0, l1, l2, l3, l4, l5, l6, l7, l8, l9, l10, l11, l12, l13, l14, l15, l16, l17, l18, l19, l20, .val .null, l22, l23, l24, l25, l26, l27] (S) H Q := W.aload at_134 rfl rfl h
theorem s0_136 {rm : Room} {S : List Value} {H : AHeap} {Q : Option Value → AHeap → Prop} {l0 l1 l2 l3 l4 l5 l6 l7 l8 l9 l10 l11 l12 l13 l14 l15 l16 l17 l18 l19 l20 l21 l22 l23 l24 l25 l26 l27 : Slot}  (h : W0 rm 137 [l0, l1, l2, l3, l4, l5, l6, l7, l8, l9, l10, l11, l12, l13, l14, l15, l16, l17, l18, l19, l20, l21, l22, l23, l24, l25, l26, l27] (.int 1 :: S) (H) Q) : W0 rm 136 [l0, l1, l2, l3, l4, l5, l6, l7, l8, l9, l10, l11, l12, l13, l14, l15, l16, l17, l18, l19, l20, l21, l22, l23, l24, l25, l26, l27] (S) H Q := W.iconst' at_136 (by decide) h
theorem s0_137 {rm : Room} {S : List Value} {H : AHeap} {Q : Option Value → AHeap → Prop} {l0 l1 l2 l3 l4 l5 l6 l7 l8 l9 l10 l11 l12 l13 l14 l15 l16 l17 l18 l19 l20 l21 l22 l23 l24 l25 l26 l27 : Slot}  (h : W0 rm 138 [l0, l1, l2, l3, l4, l5, l6, l7, l8, l9, l10, l11, l12, l13, l14, l15, l16, l17, l18, l19, l20, l21, l22, l23, l24, l25, l26, l27] (.int 2 :: S) (H) Q) : W0 rm 137 [l0, l1, l2, l3, l4, l5, l6, l7, l8, l9, l10, l11, l12, l13, l14, l15, l16, l17, l18, l19, l20, l21, l22, l23, l24, l25, l26, l27] (S) H Q := W.iconst' at_137 (by decide) h
theorem s0_138 {rm : Room} {S : List Value} {H : AHeap} {Q : Option Value → AHeap → Prop} {l0 l1 l2 l3 l4 l5 l6 l7 l8 l9 l10 l11 l12 l13 l14 l15 l16 l17 l18 l19 l20 l21 l22 l23 l24 l25 l26 l27 : Slot} {rm' : Room} {H' : AHeap} {a0 : Nat} {a1 : Int32} {a2 : Int32}  (hM : M2 rm' [.ref a0, .int a1, .int a2] H (Is none H')) (hr : rok rm rm' 5 S = true) (h : W0 (less rm rm') 141 [l0, l1, l2, l3, l4, l5, l6, l7, l8, l9, l10, l11, l12, l13, l14, l15, l16, l17, l18, l19, l20, l21, l22, l23, l24, l25, l26, l27] (S) H' Q) : W0 rm 138 [l0, l1, l2, l3, l4, l5, l6, l7, l8, l9, l10, l11, l12, l13, l14, l15, l16, l17, l18, l19, l20, l21, l22, l23, l24, l25, l26, l27] (.int a2 :: .int a1 :: .ref a0 :: S) H Q := W.callS (S := S) (as := [.ref a0, .int a1, .int a2]) (rm' := rm') at_138 (List.mem_of_getElem? (i := 6) rfl) (List.mem_of_getElem? (i := 7) rfl) (List.mem_of_getElem? (i := 2) rfl) (List.mem_of_getElem? (i := 8) rfl) (by decide) pd2 rfl rfl hM hr (fun _ _ q => by obtain ⟨rfl, rfl⟩ := q; exact h)
theorem s0_138q {rm : Room} {S : List Value} {H : AHeap} {Q : Option Value → AHeap → Prop} {l0 l1 l2 l3 l4 l5 l6 l7 l8 l9 l10 l11 l12 l13 l14 l15 l16 l17 l18 l19 l20 l21 l22 l23 l24 l25 l26 l27 : Slot} {rm' : Room} {Q' : Option Value → AHeap → Prop} {a0 a1 a2 : Value} (hM : M2 rm' [a0, a1, a2] H Q') (hr : rok rm rm' 5 S = true) (h : ∀ v H', Q' v H' → W0 (less rm rm') 141 [l0, l1, l2, l3, l4, l5, l6, l7, l8, l9, l10, l11, l12, l13, l14, l15, l16, l17, l18, l19, l20, l21, l22, l23, l24, l25, l26, l27] (v.toList ++ S) H' Q) : W0 rm 138 [l0, l1, l2, l3, l4, l5, l6, l7, l8, l9, l10, l11, l12, l13, l14, l15, l16, l17, l18, l19, l20, l21, l22, l23, l24, l25, l26, l27] (a2 :: a1 :: a0 :: S) H Q := W.callS (S := S) (as := [a0, a1, a2]) (rm' := rm') at_138 (List.mem_of_getElem? (i := 6) rfl) (List.mem_of_getElem? (i := 7) rfl) (List.mem_of_getElem? (i := 2) rfl) (List.mem_of_getElem? (i := 8) rfl) (by decide) pd2 rfl rfl hM hr h
theorem s0_141 {rm : Room} {S : List Value} {H : AHeap} {Q : Option Value → AHeap → Prop} {l0 l1 l2 l3 l4 l5 l6 l7 l8 l9 l10 l11 l12 l13 l14 l15 l16 l17 l18 l19 l20 l22 l23 l24 l25 l26 l27 : Slot} {i : Nat} (h : W0 rm 143 [l0, l1, l2, l3, l4, l5, l6, l7, l8, l9, l10, l11, l12, l13, l14, l15, l16, l17, l18, l19, l20, .val (.ref i), l22, l23, l24, l25, l26, l27] (.ref i :: S) (H) Q) : W0 rm 141 [l0, l1, l2, l3, l4, l5, l6, l7, l8, l9, l10, l11, l12, l13, l14, l15, l16, l17, l18, l19, l20, .val (.ref i), l22, l23, l24, l25, l26, l27] (S) H Q := W.aload at_141 rfl rfl h
theorem s0_141n {rm : Room} {S : List Value} {H : AHeap} {Q : Option Value → AHeap → Prop} {l0 l1 l2 l3 l4 l5 l6 l7 l8 l9 l10 l11 l12 l13 l14 l15 l16 l17 l18 l19 l20 l22 l23 l24 l25 l26 l27 : Slot}  (h : W0 rm 143 [l0, l1, l2, l3, l4, l5, l6, l7, l8, l9, l10, l11, l12, l13, l14, l15, l16, l17, l18, l19, l20, .val .null, l22, l23, l24, l25, l26, l27] (.null :: S) (H) Q) : W0 rm 141 [l0, l1, l2, l3, l4, l5, l6, l7, l8, l9, l10, l11, l12, l13, l14, l15, l16, l17, l18, l19, l20, .val .null, l22, l23, l24, l25, l26, l27] (S) H Q := W.aload at_141 rfl rfl h
theorem s0_143 {rm : Room} {S : List Value} {H : AHeap} {Q : Option Value → AHeap → Prop} {l0 l1 l2 l3 l4 l5 l6 l7 l8 l9 l10 l11 l12 l13 l14 l15 l16 l17 l18 l19 l20 l21 l22 l23 l24 l25 l26 l27 : Slot}  (h : W0 rm 144 [l0, l1, l2, l3, l4, l5, l6, l7, l8, l9, l10, l11, l12, l13, l14, l15, l16, l17, l18, l19, l20, l21, l22, l23, l24, l25, l26, l27] (.int 0 :: S) (H) Q) : W0 rm 143 [l0, l1, l2, l3, l4, l5, l6, l7, l8, l9, l10, l11, l12, l13, l14, l15, l16, l17, l18, l19, l20, l21, l22, l23, l24, l25, l26, l27] (S) H Q := W.iconst' at_143 (by decide) h
theorem s0_144 {rm : Room} {S : List Value} {H : AHeap} {Q : Option Value → AHeap → Prop} {l0 l1 l2 l3 l4 l5 l6 l7 l8 l9 l10 l11 l12 l13 l14 l15 l16 l17 l18 l19 l20 l21 l22 l23 l24 l25 l26 l27 : Slot}  (h : W0 rm 145 [l0, l1, l2, l3, l4, l5, l6, l7, l8, l9, l10, l11, l12, l13, l14, l15, l16, l17, l18, l19, l20, l21, l22, l23, l24, l25, l26, l27] (.int 1 :: S) (H) Q) : W0 rm 144 [l0, l1, l2, l3, l4, l5, l6, l7, l8, l9, l10, l11, l12, l13, l14, l15, l16, l17, l18, l19, l20, l21, l22, l23, l24, l25, l26, l27] (S) H Q := W.iconst' at_144 (by decide) h
theorem s0_145 {rm : Room} {S : List Value} {H : AHeap} {Q : Option Value → AHeap → Prop} {l0 l1 l2 l3 l4 l5 l6 l7 l8 l9 l10 l11 l12 l13 l14 l15 l16 l17 l18 l19 l20 l21 l22 l23 l24 l25 l26 l27 : Slot} {rm' : Room} {H' : AHeap} {a0 : Nat} {a1 : Int32} {a2 : Int32}  (hM : M2 rm' [.ref a0, .int a1, .int a2] H (Is none H')) (hr : rok rm rm' 5 S = true) (h : W0 (less rm rm') 148 [l0, l1, l2, l3, l4, l5, l6, l7, l8, l9, l10, l11, l12, l13, l14, l15, l16, l17, l18, l19, l20, l21, l22, l23, l24, l25, l26, l27] (S) H' Q) : W0 rm 145 [l0, l1, l2, l3, l4, l5, l6, l7, l8, l9, l10, l11, l12, l13, l14, l15, l16, l17, l18, l19, l20, l21, l22, l23, l24, l25, l26, l27] (.int a2 :: .int a1 :: .ref a0 :: S) H Q := W.callS (S := S) (as := [.ref a0, .int a1, .int a2]) (rm' := rm') at_145 (List.mem_of_getElem? (i := 6) rfl) (List.mem_of_getElem? (i := 7) rfl) (List.mem_of_getElem? (i := 2) rfl) (List.mem_of_getElem? (i := 8) rfl) (by decide) pd2 rfl rfl hM hr (fun _ _ q => by obtain ⟨rfl, rfl⟩ := q; exact h)
theorem s0_145q {rm : Room} {S : List Value} {H : AHeap} {Q : Option Value → AHeap → Prop} {l0 l1 l2 l3 l4 l5 l6 l7 l8 l9 l10 l11 l12 l13 l14 l15 l16 l17 l18 l19 l20 l21 l22 l23 l24 l25 l26 l27 : Slot} {rm' : Room} {Q' : Option Value → AHeap → Prop} {a0 a1 a2 : Value} (hM : M2 rm' [a0, a1, a2] H Q') (hr : rok rm rm' 5 S = true) (h : ∀ v H', Q' v H' → W0 (less rm rm') 148 [l0, l1, l2, l3, l4, l5, l6, l7, l8, l9, l10, l11, l12, l13, l14, l15, l16, l17, l18, l19, l20, l21, l22, l23, l24, l25, l26, l27] (v.toList ++ S) H' Q) : W0 rm 145 [l0, l1, l2, l3, l4, l5, l6, l7, l8, l9, l10, l11, l12, l13, l14, l15, l16, l17, l18, l19, l20, l21, l22, l23, l24, l25, l26, l27] (a2 :: a1 :: a0 :: S) H Q := W.callS (S := S) (as := [a0, a1, a2]) (rm' := rm') at_145 (List.mem_of_getElem? (i := 6) rfl) (List.mem_of_getElem? (i := 7) rfl) (List.mem_of_getElem? (i := 2) rfl) (List.mem_of_getElem? (i := 8) rfl) (by decide) pd2 rfl rfl hM hr h
theorem s0_148 {rm : Room} {S : List Value} {H : AHeap} {Q : Option Value → AHeap → Prop} {l0 l1 l2 l3 l4 l5 l6 l7 l8 l9 l10 l11 l12 l13 l14 l15 l16 l17 l18 l19 l20 l21 l22 l23 l24 l25 l26 l27 : Slot} (i : Nat) (hi : H.length = i) (hr : nok rm 2 = true) (h : W0 ⟨rm.frames, rm.cells - 1, rm.slots - 2, rm.locals⟩ 151 [l0, l1, l2, l3, l4, l5, l6, l7, l8, l9, l10, l11, l12, l13, l14, l15, l16, l17, l18, l19, l20, l21, l22, l23, l24, l25, l26, l27] (.ref i :: S) (H ++ [.inl (0, [.null, .int 0])]) Q) : W0 rm 148 [l0, l1, l2, l3, l4, l5, l6, l7, l8, l9, l10, l11, l12, l13, l14, l15, l16, l17, l18, l19, l20, l21, l22, l23, l24, l25, l26, l27] (S) H Q := W.new (c := 0) kt at_148 (List.mem_of_getElem? (i := 9) rfl) (List.mem_of_getElem? (i := 11) rfl) rfl hi hr h
theorem s0_151 {rm : Room} {S : List Value} {H : AHeap} {Q : Option Value → AHeap → Prop} {l0 l1 l2 l3 l4 l5 l6 l7 l8 l9 l10 l11 l12 l13 l14 l15 l16 l17 l18 l19 l20 l21 l22 l23 l24 l25 l26 l27 : Slot} {v : Value} (hc : v.category = 1) (h : W0 rm 152 [l0, l1, l2, l3, l4, l5, l6, l7, l8, l9, l10, l11, l12, l13, l14, l15, l16, l17, l18, l19, l20, l21, l22, l23, l24, l25, l26, l27] (v :: v :: S) (H) Q) : W0 rm 151 [l0, l1, l2, l3, l4, l5, l6, l7, l8, l9, l10, l11, l12, l13, l14, l15, l16, l17, l18, l19, l20, l21, l22, l23, l24, l25, l26, l27] (v :: S) H Q := W.dup at_151 hc h
theorem s0_152 {rm : Room} {S : List Value} {H : AHeap} {Q : Option Value → AHeap → Prop} {l0 l1 l2 l3 l4 l5 l6 l7 l8 l9 l10 l11 l12 l13 l14 l15 l16 l17 l18 l19 l20 l21 l22 l23 l24 l25 l26 l27 : Slot} {rm' : Room} {H' : AHeap} {i : Nat}   (hM : M3 rm' [.ref i] H (Is none H')) (hr : rok rm rm' 1 S = true) (h : W0 (less rm rm') 155 [l0, l1, l2, l3, l4, l5, l6, l7, l8, l9, l10, l11, l12, l13, l14, l15, l16, l17, l18, l19, l20, l21, l22, l23, l24, l25, l26, l27] (S) H' Q) : W0 rm 152 [l0, l1, l2, l3, l4, l5, l6, l7, l8, l9, l10, l11, l12, l13, l14, l15, l16, l17, l18, l19, l20, l21, l22, l23, l24, l25, l26, l27] (.ref i :: S) H Q := W.callI (S := S) (as := []) (rm' := rm') at_152 rfl rfl (List.mem_of_getElem? (i := 12) rfl) (List.mem_of_getElem? (i := 13) rfl) (List.mem_of_getElem? (i := 11) rfl) (List.mem_of_getElem? (i := 14) rfl) (by decide) pd3 rfl rfl hM hr (fun _ _ q => by obtain ⟨rfl, rfl⟩ := q; exact h)
theorem s0_152q {rm : Room} {S : List Value} {H : AHeap} {Q : Option Value → AHeap → Prop} {l0 l1 l2 l3 l4 l5 l6 l7 l8 l9 l10 l11 l12 l13 l14 l15 l16 l17 l18 l19 l20 l21 l22 l23 l24 l25 l26 l27 : Slot} {rm' : Room} {Q' : Option Value → AHeap → Prop} {i : Nat}  (hM : M3 rm' [.ref i] H Q') (hr : rok rm rm' 1 S = true) (h : ∀ v H', Q' v H' → W0 (less rm rm') 155 [l0, l1, l2, l3, l4, l5, l6, l7, l8, l9, l10, l11, l12, l13, l14, l15, l16, l17, l18, l19, l20, l21, l22, l23, l24, l25, l26, l27] (v.toList ++ S) H' Q) : W0 rm 152 [l0, l1, l2, l3, l4, l5, l6, l7, l8, l9, l10, l11, l12, l13, l14, l15, l16, l17, l18, l19, l20, l21, l22, l23, l24, l25, l26, l27] (.ref i :: S) H Q := W.callI (S := S) (as := []) (rm' := rm') at_152 rfl rfl (List.mem_of_getElem? (i := 12) rfl) (List.mem_of_getElem? (i := 13) rfl) (List.mem_of_getElem? (i := 11) rfl) (List.mem_of_getElem? (i := 14) rfl) (by decide) pd3 rfl rfl hM hr h
theorem s0_155 {rm : Room} {S : List Value} {H : AHeap} {Q : Option Value → AHeap → Prop} {l0 l1 l2 l3 l4 l5 l6 l7 l8 l9 l10 l11 l12 l13 l14 l15 l16 l17 l18 l19 l20 l21 l22 l23 l24 l25 l26 l27 : Slot} {i : Nat} (ho : one l22 = true) (h : W0 rm 157 [l0, l1, l2, l3, l4, l5, l6, l7, l8, l9, l10, l11, l12, l13, l14, l15, l16, l17, l18, l19, l20, l21, .val (.ref i), l23, l24, l25, l26, l27] (S) (H) Q) : W0 rm 155 [l0, l1, l2, l3, l4, l5, l6, l7, l8, l9, l10, l11, l12, l13, l14, l15, l16, l17, l18, l19, l20, l21, l22, l23, l24, l25, l26, l27] (.ref i :: S) H Q := W.astore at_155 rfl ho rfl h
theorem s0_157 {rm : Room} {S : List Value} {H : AHeap} {Q : Option Value → AHeap → Prop} {l0 l1 l2 l3 l4 l5 l6 l7 l8 l9 l10 l11 l12 l13 l14 l15 l16 l17 l18 l19 l20 l21 l23 l24 l25 l26 l27 : Slot} {i : Nat} (h : W0 rm 159 [l0, l1, l2, l3, l4, l5, l6, l7, l8, l9, l10, l11, l12, l13, l14, l15, l16, l17, l18, l19, l20, l21, .val (.ref i), l23, l24, l25, l26, l27] (.ref i :: S) (H) Q) : W0 rm 157 [l0, l1, l2, l3, l4, l5, l6, l7, l8, l9, l10, l11, l12, l13, l14, l15, l16, l17, l18, l19, l20, l21, .val (.ref i), l23, l24, l25, l26, l27] (S) H Q := W.aload at_157 rfl rfl h
theorem s0_157n {rm : Room} {S : List Value} {H : AHeap} {Q : Option Value → AHeap → Prop} {l0 l1 l2 l3 l4 l5 l6 l7 l8 l9 l10 l11 l12 l13 l14 l15 l16 l17 l18 l19 l20 l21 l23 l24 l25 l26 l27 : Slot}  (h : W0 rm 159 [l0, l1, l2, l3, l4, l5, l6, l7, l8, l9, l10, l11, l12, l13, l14, l15, l16, l17, l18, l19, l20, l21, .val .null, l23, l24, l25, l26, l27] (.null :: S) (H) Q) : W0 rm 157 [l0, l1, l2, l3, l4, l5, l6, l7, l8, l9, l10, l11, l12, l13, l14, l15, l16, l17, l18, l19, l20, l21, .val .null, l23, l24, l25, l26, l27] (S) H Q := W.aload at_157 rfl rfl h
theorem s0_159 {rm : Room} {S : List Value} {H : AHeap} {Q : Option Value → AHeap → Prop} {l0 l1 l2 l3 l4 l5 l6 l7 l8 l9 l10 l12 l13 l14 l15 l16 l17 l18 l19 l20 l21 l22 l23 l24 l25 l26 l27 : Slot} {x : Int64} (h : W0 rm 161 [l0, l1, l2, l3, l4, l5, l6, l7, l8, l9, l10, .val (.long x), l12, l13, l14, l15, l16, l17, l18, l19, l20, l21, l22, l23, l24, l25, l26, l27] (.long x :: S) (H) Q) : W0 rm 159 [l0, l1, l2, l3, l4, l5, l6, l7, l8, l9, l10, .val (.long x), l12, l13, l14, l15, l16, l17, l18, l19, l20, l21, l22, l23, l24, l25, l26, l27] (S) H Q := W.lload at_159 rfl h
theorem s0_161 {rm : Room} {S : List Value} {H : AHeap} {Q : Option Value → AHeap → Prop} {l0 l1 l2 l3 l4 l5 l6 l7 l8 l9 l10 l11 l12 l13 l14 l15 l16 l17 l18 l19 l20 l21 l22 l23 l24 l25 l26 l27 : Slot} {rm' : Room} {H' : AHeap} {a0 : Int64} {r : Int32} (hM : M4 rm' [.long a0] H (Is (some (.int r)) H')) (hr : rok rm rm' 2 S = true) (h : W0 (less rm rm') 164 [l0, l1, l2, l3, l4, l5, l6, l7, l8, l9, l10, l11, l12, l13, l14, l15, l16, l17, l18, l19, l20, l21, l22, l23, l24, l25, l26, l27] (.int r :: S) H' Q) : W0 rm 161 [l0, l1, l2, l3, l4, l5, l6, l7, l8, l9, l10, l11, l12, l13, l14, l15, l16, l17, l18, l19, l20, l21, l22, l23, l24, l25, l26, l27] (.long a0 :: S) H Q := W.callS (S := S) (as := [.long a0]) (rm' := rm') at_161 (List.mem_of_getElem? (i := 20) rfl) (List.mem_of_getElem? (i := 21) rfl) (List.mem_of_getElem? (i := 2) rfl) (List.mem_of_getElem? (i := 22) rfl) (by decide) pd4 rfl rfl hM hr (fun _ _ q => by obtain ⟨rfl, rfl⟩ := q; exact h)
theorem s0_161q {rm : Room} {S : List Value} {H : AHeap} {Q : Option Value → AHeap → Prop} {l0 l1 l2 l3 l4 l5 l6 l7 l8 l9 l10 l11 l12 l13 l14 l15 l16 l17 l18 l19 l20 l21 l22 l23 l24 l25 l26 l27 : Slot} {rm' : Room} {Q' : Option Value → AHeap → Prop} {a0 : Value} (hM : M4 rm' [a0] H Q') (hr : rok rm rm' 2 S = true) (h : ∀ v H', Q' v H' → W0 (less rm rm') 164 [l0, l1, l2, l3, l4, l5, l6, l7, l8, l9, l10, l11, l12, l13, l14, l15, l16, l17, l18, l19, l20, l21, l22, l23, l24, l25, l26, l27] (v.toList ++ S) H' Q) : W0 rm 161 [l0, l1, l2, l3, l4, l5, l6, l7, l8, l9, l10, l11, l12, l13, l14, l15, l16, l17, l18, l19, l20, l21, l22, l23, l24, l25, l26, l27] (a0 :: S) H Q := W.callS (S := S) (as := [a0]) (rm' := rm') at_161 (List.mem_of_getElem? (i := 20) rfl) (List.mem_of_getElem? (i := 21) rfl) (List.mem_of_getElem? (i := 2) rfl) (List.mem_of_getElem? (i := 22) rfl) (by decide) pd4 rfl rfl hM hr h
theorem s0_164 {rm : Room} {S : List Value} {H : AHeap} {Q : Option Value → AHeap → Prop} {l0 l1 l2 l3 l4 l5 l6 l7 l8 l9 l10 l12 l13 l14 l15 l16 l17 l18 l19 l20 l21 l22 l23 l24 l25 l26 l27 : Slot} {x : Int64} (h : W0 rm 166 [l0, l1, l2, l3, l4, l5, l6, l7, l8, l9, l10, .val (.long x), l12, l13, l14, l15, l16, l17, l18, l19, l20, l21, l22, l23, l24, l25, l26, l27] (.long x :: S) (H) Q) : W0 rm 164 [l0, l1, l2, l3, l4, l5, l6, l7, l8, l9, l10, .val (.long x), l12, l13, l14, l15, l16, l17, l18, l19, l20, l21, l22, l23, l24, l25, l26, l27] (S) H Q := W.lload at_164 rfl h
theorem s0_166 {rm : Room} {S : List Value} {H : AHeap} {Q : Option Value → AHeap → Prop} {l0 l1 l2 l3 l4 l5 l6 l7 l8 l9 l10 l11 l12 l13 l14 l15 l16 l17 l18 l19 l20 l21 l22 l23 l24 l25 l26 l27 : Slot} {rm' : Room} {H' : AHeap} {a0 : Int64} {r : Int32} (hM : M5 rm' [.long a0] H (Is (some (.int r)) H')) (hr : rok rm rm' 2 S = true) (h : W0 (less rm rm') 169 [l0, l1, l2, l3, l4, l5, l6, l7, l8, l9, l10, l11, l12, l13, l14, l15, l16, l17, l18, l19, l20, l21, l22, l23, l24, l25, l26, l27] (.int r :: S) H' Q) : W0 rm 166 [l0, l1, l2, l3, l4, l5, l6, l7, l8, l9, l10, l11, l12, l13, l14, l15, l16, l17, l18, l19, l20, l21, l22, l23, l24, l25, l26, l27] (.long a0 :: S) H Q := W.callS (S := S) (as := [.long a0]) (rm' := rm') at_166 (List.mem_of_getElem? (i := 23) rfl) (List.mem_of_getElem? (i := 24) rfl) (List.mem_of_getElem? (i := 2) rfl) (List.mem_of_getElem? (i := 25) rfl) (by decide) pd4 rfl rfl hM hr (fun _ _ q => by obtain ⟨rfl, rfl⟩ := q; exact h)
theorem s0_166q {rm : Room} {S : List Value} {H : AHeap} {Q : Option Value → AHeap → Prop} {l0 l1 l2 l3 l4 l5 l6 l7 l8 l9 l10 l11 l12 l13 l14 l15 l16 l17 l18 l19 l20 l21 l22 l23 l24 l25 l26 l27 : Slot} {rm' : Room} {Q' : Option Value → AHeap → Prop} {a0 : Value} (hM : M5 rm' [a0] H Q') (hr : rok rm rm' 2 S = true) (h : ∀ v H', Q' v H' → W0 (less rm rm') 169 [l0, l1, l2, l3, l4, l5, l6, l7, l8, l9, l10, l11, l12, l13, l14, l15, l16, l17, l18, l19, l20, l21, l22, l23, l24, l25, l26, l27] (v.toList ++ S) H' Q) : W0 rm 166 [l0, l1, l2, l3, l4, l5, l6, l7, l8, l9, l10, l11, l12, l13, l14, l15, l16, l17, l18, l19, l20, l21, l22, l23, l24, l25, l26, l27] (a0 :: S) H Q := W.callS (S := S) (as := [a0]) (rm' := rm') at_166 (List.mem_of_getElem? (i := 23) rfl) (List.mem_of_getElem? (i := 24) rfl) (List.mem_of_getElem? (i := 2) rfl) (List.mem_of_getElem? (i := 25) rfl) (by decide) pd4 rfl rfl hM hr h
theorem s0_169 {rm : Room} {S : List Value} {H : AHeap} {Q : Option Value → AHeap → Prop} {l0 l1 l2 l3 l4 l5 l6 l7 l8 l9 l10 l11 l12 l13 l14 l15 l16 l17 l18 l19 l20 l21 l22 l23 l24 l25 l26 l27 : Slot} {rm' : Room} {H' : AHeap} {i : Nat} {vs : List Value} {a0 : Int32} {a1 : Int32}  (hH : H[i]? = some (.inl (0, vs))) (hM : M6 rm' [.ref i, .int a0, .int a1] H (Is none H')) (hr : rok rm rm' 6 S = true) (h : W0 (less rm rm') 172 [l0, l1, l2, l3, l4, l5, l6, l7, l8, l9, l10, l11, l12, l13, l14, l15, l16, l17, l18, l19, l20, l21, l22, l23, l24, l25, l26, l27] (S) H' Q) : W0 rm 169 [l0, l1, l2, l3, l4, l5, l6, l7, l8, l9, l10, l11, l12, l13, l14, l15, l16, l17, l18, l19, l20, l21, l22, l23, l24, l25, l26, l27] (.int a1 :: .int a0 :: .ref i :: S) H Q := W.callV (c := 0) (S := S) (as := [.int a0, .int a1]) (rm' := rm') at_169 (List.mem_of_getElem? (i := 27) rfl) (List.mem_of_getElem? (i := 28) rfl) (List.mem_of_getElem? (i := 30) rfl) (Or.inl rfl) kt (List.mem_of_getElem? (i := 29) rfl) (List.mem_of_getElem? (i := 11) rfl) (List.mem_of_getElem? (i := 31) rfl) (by decide) rfl pd5 rfl rfl hH hM hr (fun _ _ q => by obtain ⟨rfl, rfl⟩ := q; exact h)
theorem s0_169q {rm : Room} {S : List Value} {H : AHeap} {Q : Option Value → AHeap → Prop} {l0 l1 l2 l3 l4 l5 l6 l7 l8 l9 l10 l11 l12 l13 l14 l15 l16 l17 l18 l19 l20 l21 l22 l23 l24 l25 l26 l27 : Slot} {rm' : Room} {Q' : Option Value → AHeap → Prop} {i : Nat} {vs : List Value} {a0 a1 : Value} (hH : H[i]? = some (.inl (0, vs))) (hM : M6 rm' [.ref i, a0, a1] H Q') (hr : rok rm rm' 6 S = true) (h : ∀ v H', Q' v H' → W0 (less rm rm') 172 [l0, l1, l2, l3, l4, l5, l6, l7, l8, l9, l10, l11, l12, l13, l14, l15, l16, l17, l18, l19, l20, l21, l22, l23, l24, l25, l26, l27] (v.toList ++ S) H' Q) : W0 rm 169 [l0, l1, l2, l3, l4, l5, l6, l7, l8, l9, l10, l11, l12, l13, l14, l15, l16, l17, l18, l19, l20, l21, l22, l23, l24, l25, l26, l27] (a1 :: a0 :: .ref i :: S) H Q := W.callV (c := 0) (S := S) (as := [a0, a1]) (rm' := rm') at_169 (List.mem_of_getElem? (i := 27) rfl) (List.mem_of_getElem? (i := 28) rfl) (List.mem_of_getElem? (i := 30) rfl) (Or.inl rfl) kt (List.mem_of_getElem? (i := 29) rfl) (List.mem_of_getElem? (i := 11) rfl) (List.mem_of_getElem? (i := 31) rfl) (by decide) rfl pd5 rfl rfl hH hM hr h
theorem s0_172 {rm : Room} {S : List Value} {H : AHeap} {Q : Option Value → AHeap → Prop} {l0 l1 l2 l3 l4 l5 l6 l7 l8 l9 l10 l11 l12 l13 l14 l15 l16 l17 l18 l19 l20 l21 l23 l24 l25 l26 l27 : Slot} {i : Nat} (h : W0 rm 174 [l0, l1, l2, l3, l4, l5, l6, l7, l8, l9, l10, l11, l12, l13, l14, l15, l16, l17, l18, l19, l20, l21, .val (.ref i), l23, l24, l25, l26, l27] (.ref i :: S) (H) Q) : W0 rm 172 [l0, l1, l2, l3, l4, l5, l6, l7, l8, l9, l10, l11, l12, l13, l14, l15, l16, l17, l18, l19, l20, l21, .val (.ref i), l23, l24, l25, l26, l27] (S) H Q := W.aload at_172 rfl rfl h
theorem s0_172n {rm : Room} {S : List Value} {H : AHeap} {Q : Option Value → AHeap → Prop} {l0 l1 l2 l3 l4 l5 l6 l7 l8 l9 l10 l11 l12 l13 l14 l15 l16 l17 l18 l19 l20 l21 l23 l24 l25 l26 l27 : Slot}  (h : W0 rm 174 [l0, l1, l2, l3, l4, l5, l6, l7, l8, l9, l10, l11, l12, l13, l14, l15, l16, l17, l18, l19, l20, l21, .val .null, l23, l24, l25, l26, l27] (.null :: S) (H) Q) : W0 rm 172 [l0, l1, l2, l3, l4, l5, l6, l7, l8, l9, l10, l11, l12, l13, l14, l15, l16, l17, l18, l19, l20, l21, .val .null, l23, l24, l25, l26, l27] (S) H Q := W.aload at_172 rfl rfl h
theorem s0_174 {rm : Room} {S : List Value} {H : AHeap} {Q : Option Value → AHeap → Prop} {l0 l1 l2 l3 l4 l5 l6 l7 l8 l9 l10 l11 l12 l14 l15 l16 l17 l18 l19 l20 l21 l22 l23 l24 l25 l26 l27 : Slot} {x : Int64} (h : W0 rm 176 [l0, l1, l2, l3, l4, l5, l6, l7, l8, l9, l10, l11, l12, .val (.long x), l14, l15, l16, l17, l18, l19, l20, l21, l22, l23, l24, l25, l26, l27] (.long x :: S) (H) Q) : W0 rm 174 [l0, l1, l2, l3, l4, l5, l6, l7, l8, l9, l10, l11, l12, .val (.long x), l14, l15, l16, l17, l18, l19, l20, l21, l22, l23, l24, l25, l26, l27] (S) H Q := W.lload at_174 rfl h
theorem s0_176 {rm : Room} {S : List Value} {H : AHeap} {Q : Option Value → AHeap → Prop} {l0 l1 l2 l3 l4 l5 l6 l7 l8 l9 l10 l11 l12 l13 l14 l15 l16 l17 l18 l19 l20 l21 l22 l23 l24 l25 l26 l27 : Slot} {rm' : Room} {H' : AHeap} {a0 : Int64} {r : Int32} (hM : M4 rm' [.long a0] H (Is (some (.int r)) H')) (hr : rok rm rm' 2 S = true) (h : W0 (less rm rm') 179 [l0, l1, l2, l3, l4, l5, l6, l7, l8, l9, l10, l11, l12, l13, l14, l15, l16, l17, l18, l19, l20, l21, l22, l23, l24, l25, l26, l27] (.int r :: S) H' Q) : W0 rm 176 [l0, l1, l2, l3, l4, l5, l6, l7, l8, l9, l10, l11, l12, l13, l14, l15, l16, l17, l18, l19, l20, l21, l22, l23, l24, l25, l26, l27] (.long a0 :: S) H Q := W.callS (S := S) (as := [.long a0]) (rm' := rm') at_176 (List.mem_of_getElem? (i := 20) rfl) (List.mem_of_getElem? (i := 21) rfl) (List.mem_of_getElem? (i := 2) rfl) (List.mem_of_getElem? (i := 22) rfl) (by decide) pd4 rfl rfl hM hr (fun _ _ q => by obtain ⟨rfl, rfl⟩ := q; exact h)
theorem s0_176q {rm : Room} {S : List Value} {H : AHeap} {Q : Option Value → AHeap → Prop} {l0 l1 l2 l3 l4 l5 l6 l7 l8 l9 l10 l11 l12 l13 l14 l15 l16 l17 l18 l19 l20 l21 l22 l23 l24 l25 l26 l27 : Slot} {rm' : Room} {Q' : Option Value → AHeap → Prop} {a0 : Value} (hM : M4 rm' [a0] H Q') (hr : rok rm rm' 2 S = true) (h : ∀ v H', Q' v H' → W0 (less rm rm') 179 [l0, l1, l2, l3, l4, l5, l6, l7, l8, l9, l10, l11, l12, l13, l14, l15, l16, l17, l18, l19, l20, l21, l22, l23, l24, l25, l26, l27] (v.toList ++ S) H' Q) : W0 rm 176 [l0, l1, l2, l3, l4, l5, l6, l7, l8, l9, l10, l11, l12, l13, l14, l15, l16, l17, l18, l19, l20, l21, l22, l23, l24, l25, l26, l27] (a0 :: S) H Q := W.callS (S := S) (as := [a0]) (rm' := rm') at_176 (List.mem_of_getElem? (i := 20) rfl) (List.mem_of_getElem? (i := 21) rfl) (List.mem_of_getElem? (i := 2) rfl) (List.mem_of_getElem? (i := 22) rfl) (by decide) pd4 rfl rfl hM hr h
theorem s0_179 {rm : Room} {S : List Value} {H : AHeap} {Q : Option Value → AHeap → Prop} {l0 l1 l2 l3 l4 l5 l6 l7 l8 l9 l10 l11 l12 l14 l15 l16 l17 l18 l19 l20 l21 l22 l23 l24 l25 l26 l27 : Slot} {x : Int64} (h : W0 rm 181 [l0, l1, l2, l3, l4, l5, l6, l7, l8, l9, l10, l11, l12, .val (.long x), l14, l15, l16, l17, l18, l19, l20, l21, l22, l23, l24, l25, l26, l27] (.long x :: S) (H) Q) : W0 rm 179 [l0, l1, l2, l3, l4, l5, l6, l7, l8, l9, l10, l11, l12, .val (.long x), l14, l15, l16, l17, l18, l19, l20, l21, l22, l23, l24, l25, l26, l27] (S) H Q := W.lload at_179 rfl h
theorem s0_181 {rm : Room} {S : List Value} {H : AHeap} {Q : Option Value → AHeap → Prop} {l0 l1 l2 l3 l4 l5 l6 l7 l8 l9 l10 l11 l12 l13 l14 l15 l16 l17 l18 l19 l20 l21 l22 l23 l24 l25 l26 l27 : Slot} {rm' : Room} {H' : AHeap} {a0 : Int64} {r : Int32} (hM : M5 rm' [.long a0] H (Is (some (.int r)) H')) (hr : rok rm rm' 2 S = true) (h : W0 (less rm rm') 184 [l0, l1, l2, l3, l4, l5, l6, l7, l8, l9, l10, l11, l12, l13, l14, l15, l16, l17, l18, l19, l20, l21, l22, l23, l24, l25, l26, l27] (.int r :: S) H' Q) : W0 rm 181 [l0, l1, l2, l3, l4, l5, l6, l7, l8, l9, l10, l11, l12, l13, l14, l15, l16, l17, l18, l19, l20, l21, l22, l23, l24, l25, l26, l27] (.long a0 :: S) H Q := W.callS (S := S) (as := [.long a0]) (rm' := rm') at_181 (List.mem_of_getElem? (i := 23) rfl) (List.mem_of_getElem? (i := 24) rfl) (List.mem_of_getElem? (i := 2) rfl) (List.mem_of_getElem? (i := 25) rfl) (by decide) pd4 rfl rfl hM hr (fun _ _ q => by obtain ⟨rfl, rfl⟩ := q; exact h)
theorem s0_181q {rm : Room} {S : List Value} {H : AHeap} {Q : Option Value → AHeap → Prop} {l0 l1 l2 l3 l4 l5 l6 l7 l8 l9 l10 l11 l12 l13 l14 l15 l16 l17 l18 l19 l20 l21 l22 l23 l24 l25 l26 l27 : Slot} {rm' : Room} {Q' : Option Value → AHeap → Prop} {a0 : Value} (hM : M5 rm' [a0] H Q') (hr : rok rm rm' 2 S = true) (h : ∀ v H', Q' v H' → W0 (less rm rm') 184 [l0, l1, l2, l3, l4, l5, l6, l7, l8, l9, l10, l11, l12, l13, l14, l15, l16, l17, l18, l19, l20, l21, l22, l23, l24, l25, l26, l27] (v.toList ++ S) H' Q) : W0 rm 181 [l0, l1, l2, l3, l4, l5, l6, l7, l8, l9, l10, l11, l12, l13, l14, l15, l16, l17, l18, l19, l20, l21, l22, l23, l24, l25, l26, l27] (a0 :: S) H Q := W.callS (S := S) (as := [a0]) (rm' := rm') at_181 (List.mem_of_getElem? (i := 23) rfl) (List.mem_of_getElem? (i := 24) rfl) (List.mem_of_getElem? (i := 2) rfl) (List.mem_of_getElem? (i := 25) rfl) (by decide) pd4 rfl rfl hM hr h
theorem s0_184 {rm : Room} {S : List Value} {H : AHeap} {Q : Option Value → AHeap → Prop} {l0 l1 l2 l3 l4 l5 l6 l7 l8 l9 l10 l11 l12 l13 l14 l15 l16 l17 l18 l19 l20 l21 l22 l23 l24 l25 l26 l27 : Slot} {rm' : Room} {H' : AHeap} {i : Nat} {vs : List Value} {a0 : Int32} {a1 : Int32}  (hH : H[i]? = some (.inl (0, vs))) (hM : M6 rm' [.ref i, .int a0, .int a1] H (Is none H')) (hr : rok rm rm' 6 S = true) (h : W0 (less rm rm') 187 [l0, l1, l2, l3, l4, l5, l6, l7, l8, l9, l10, l11, l12, l13, l14, l15, l16, l17, l18, l19, l20, l21, l22, l23, l24, l25, l26, l27] (S) H' Q) : W0 rm 184 [l0, l1, l2, l3, l4, l5, l6, l7, l8, l9, l10, l11, l12, l13, l14, l15, l16, l17, l18, l19, l20, l21, l22, l23, l24, l25, l26, l27] (.int a1 :: .int a0 :: .ref i :: S) H Q := W.callV (c := 0) (S := S) (as := [.int a0, .int a1]) (rm' := rm') at_184 (List.mem_of_getElem? (i := 27) rfl) (List.mem_of_getElem? (i := 28) rfl) (List.mem_of_getElem? (i := 30) rfl) (Or.inl rfl) kt (List.mem_of_getElem? (i := 29) rfl) (List.mem_of_getElem? (i := 11) rfl) (List.mem_of_getElem? (i := 31) rfl) (by decide) rfl pd5 rfl rfl hH hM hr (fun _ _ q => by obtain ⟨rfl, rfl⟩ := q; exact h)
theorem s0_184q {rm : Room} {S : List Value} {H : AHeap} {Q : Option Value → AHeap → Prop} {l0 l1 l2 l3 l4 l5 l6 l7 l8 l9 l10 l11 l12 l13 l14 l15 l16 l17 l18 l19 l20 l21 l22 l23 l24 l25 l26 l27 : Slot} {rm' : Room} {Q' : Option Value → AHeap → Prop} {i : Nat} {vs : List Value} {a0 a1 : Value} (hH : H[i]? = some (.inl (0, vs))) (hM : M6 rm' [.ref i, a0, a1] H Q') (hr : rok rm rm' 6 S = true) (h : ∀ v H', Q' v H' → W0 (less rm rm') 187 [l0, l1, l2, l3, l4, l5, l6, l7, l8, l9, l10, l11, l12, l13, l14, l15, l16, l17, l18, l19, l20, l21, l22, l23, l24, l25, l26, l27] (v.toList ++ S) H' Q) : W0 rm 184 [l0, l1, l2, l3, l4, l5, l6, l7, l8, l9, l10, l11, l12, l13, l14, l15, l16, l17, l18, l19, l20, l21, l22, l23, l24, l25, l26, l27] (a1 :: a0 :: .ref i :: S) H Q := W.callV (c := 0) (S := S) (as := [a0, a1]) (rm' := rm') at_184 (List.mem_of_getElem? (i := 27) rfl) (List.mem_of_getElem? (i := 28) rfl) (List.mem_of_getElem? (i := 30) rfl) (Or.inl rfl) kt (List.mem_of_getElem? (i := 29) rfl) (List.mem_of_getElem? (i := 11) rfl) (List.mem_of_getElem? (i := 31) rfl) (by decide) rfl pd5 rfl rfl hH hM hr h
theorem s0_187 {rm : Room} {S : List Value} {H : AHeap} {Q : Option Value → AHeap → Prop} {l0 l1 l2 l3 l4 l5 l6 l7 l8 l9 l10 l11 l12 l13 l14 l15 l16 l17 l18 l19 l20 l21 l23 l24 l25 l26 l27 : Slot} {i : Nat} (h : W0 rm 189 [l0, l1, l2, l3, l4, l5, l6, l7, l8, l9, l10, l11, l12, l13, l14, l15, l16, l17, l18, l19, l20, l21, .val (.ref i), l23, l24, l25, l26, l27] (.ref i :: S) (H) Q) : W0 rm 187 [l0, l1, l2, l3, l4, l5, l6, l7, l8, l9, l10, l11, l12, l13, l14, l15, l16, l17, l18, l19, l20, l21, .val (.ref i), l23, l24, l25, l26, l27] (S) H Q := W.aload at_187 rfl rfl h
theorem s0_187n {rm : Room} {S : List Value} {H : AHeap} {Q : Option Value → AHeap → Prop} {l0 l1 l2 l3 l4 l5 l6 l7 l8 l9 l10 l11 l12 l13 l14 l15 l16 l17 l18 l19 l20 l21 l23 l24 l25 l26 l27 : Slot}  (h : W0 rm 189 [l0, l1, l2, l3, l4, l5, l6, l7, l8, l9, l10, l11, l12, l13, l14, l15, l16, l17, l18, l19, l20, l21, .val .null, l23, l24, l25, l26, l27] (.null :: S) (H) Q) : W0 rm 187 [l0, l1, l2, l3, l4, l5, l6, l7, l8, l9, l10, l11, l12, l13, l14, l15, l16, l17, l18, l19, l20, l21, .val .null, l23, l24, l25, l26, l27] (S) H Q := W.aload at_187 rfl rfl h
theorem s0_189 {rm : Room} {S : List Value} {H : AHeap} {Q : Option Value → AHeap → Prop} {l0 l1 l2 l3 l4 l5 l6 l7 l8 l9 l10 l11 l12 l13 l14 l16 l17 l18 l19 l20 l21 l22 l23 l24 l25 l26 l27 : Slot} {x : Int64} (h : W0 rm 191 [l0, l1, l2, l3, l4, l5, l6, l7, l8, l9, l10, l11, l12, l13, l14, .val (.long x), l16, l17, l18, l19, l20, l21, l22, l23, l24, l25, l26, l27] (.long x :: S) (H) Q) : W0 rm 189 [l0, l1, l2, l3, l4, l5, l6, l7, l8, l9, l10, l11, l12, l13, l14, .val (.long x), l16, l17, l18, l19, l20, l21, l22, l23, l24, l25, l26, l27] (S) H Q := W.lload at_189 rfl h
theorem s0_191 {rm : Room} {S : List Value} {H : AHeap} {Q : Option Value → AHeap → Prop} {l0 l1 l2 l3 l4 l5 l6 l7 l8 l9 l10 l11 l12 l13 l14 l15 l16 l17 l18 l19 l20 l21 l22 l23 l24 l25 l26 l27 : Slot} {rm' : Room} {H' : AHeap} {a0 : Int64} {r : Int32} (hM : M4 rm' [.long a0] H (Is (some (.int r)) H')) (hr : rok rm rm' 2 S = true) (h : W0 (less rm rm') 194 [l0, l1, l2, l3, l4, l5, l6, l7, l8, l9, l10, l11, l12, l13, l14, l15, l16, l17, l18, l19, l20, l21, l22, l23, l24, l25, l26, l27] (.int r :: S) H' Q) : W0 rm 191 [l0, l1, l2, l3, l4, l5, l6, l7, l8, l9, l10, l11, l12, l13, l14, l15, l16, l17, l18, l19, l20, l21, l22, l23, l24, l25, l26, l27] (.long a0 :: S) H Q := W.callS (S := S) (as := [.long a0]) (rm' := rm') at_191 (List.mem_of_getElem? (i := 20) rfl) (List.mem_of_getElem? (i := 21) rfl) (List.mem_of_getElem? (i := 2) rfl) (List.mem_of_getElem? (i := 22) rfl) (by decide) pd4 rfl rfl hM hr (fun _ _ q => by obtain ⟨rfl, rfl⟩ := q; exact h)
theorem s0_191q {rm : Room} {S : List Value} {H : AHeap} {Q : Option Value → AHeap → Prop} {l0 l1 l2 l3 l4 l5 l6 l7 l8 l9 l10 l11 l12 l13 l14 l15 l16 l17 l18 l19 l20 l21 l22 l23 l24 l25 l26 l27 : Slot} {rm' : Room} {Q' : Option Value → AHeap → Prop} {a0 : Value} (hM : M4 rm' [a0] H Q') (hr : rok rm rm' 2 S = true) (h : ∀ v H', Q' v H' → W0 (less rm rm') 194 [l0, l1, l2, l3, l4, l5, l6, l7, l8, l9, l10, l11, l12, l13, l14, l15, l16, l17, l18, l19, l20, l21, l22, l23, l24, l25, l26, l27] (v.toList ++ S) H' Q) : W0 rm 191 [l0, l1, l2, l3, l4, l5, l6, l7, l8, l9, l10, l11, l12, l13, l14, l15, l16, l17, l18, l19, l20, l21, l22, l23, l24, l25, l26, l27] (a0 :: S) H Q := W.callS (S := S) (as := [a0]) (rm' := rm') at_191 (List.mem_of_getElem? (i := 20) rfl) (List.mem_of_getElem? (i := 21) rfl) (List.mem_of_getElem? (i := 2) rfl) (List.mem_of_getElem? (i := 22) rfl) (by decide) pd4 rfl rfl hM hr h
theorem s0_194 {rm : Room} {S : List Value} {H : AHeap} {Q : Option Value → AHeap → Prop} {l0 l1 l2 l3 l4 l5 l6 l7 l8 l9 l10 l11 l12 l13 l14 l16 l17 l18 l19 l20 l21 l22 l23 l24 l25 l26 l27 : Slot} {x : Int64} (h : W0 rm 196 [l0, l1, l2, l3, l4, l5, l6, l7, l8, l9, l10, l11, l12, l13, l14, .val (.long x), l16, l17, l18, l19, l20, l21, l22, l23, l24, l25, l26, l27] (.long x :: S) (H) Q) : W0 rm 194 [l0, l1, l2, l3, l4, l5, l6, l7, l8, l9, l10, l11, l12, l13, l14, .val (.long x), l16, l17, l18, l19, l20, l21, l22, l23, l24, l25, l26, l27] (S) H Q := W.lload at_194 rfl h
theorem s0_196 {rm : Room} {S : List Value} {H : AHeap} {Q : Option Value → AHeap → Prop} {l0 l1 l2 l3 l4 l5 l6 l7 l8 l9 l10 l11 l12 l13 l14 l15 l16 l17 l18 l19 l20 l21 l22 l23 l24 l25 l26 l27 : Slot} {rm' : Room} {H' : AHeap} {a0 : Int64} {r : Int32} (hM : M5 rm' [.long a0] H (Is (some (.int r)) H')) (hr : rok rm rm' 2 S = true) (h : W0 (less rm rm') 199 [l0, l1, l2, l3, l4, l5, l6, l7, l8, l9, l10, l11, l12, l13, l14, l15, l16, l17, l18, l19, l20, l21, l22, l23, l24, l25, l26, l27] (.int r :: S) H' Q) : W0 rm 196 [l0, l1, l2, l3, l4, l5, l6, l7, l8, l9, l10, l11, l12, l13, l14, l15, l16, l17, l18, l19, l20, l21, l22, l23, l24, l25, l26, l27] (.long a0 :: S) H Q := W.callS (S := S) (as := [.long a0]) (rm' := rm') at_196 (List.mem_of_getElem? (i := 23) rfl) (List.mem_of_getElem? (i := 24) rfl) (List.mem_of_getElem? (i := 2) rfl) (List.mem_of_getElem? (i := 25) rfl) (by decide) pd4 rfl rfl hM hr (fun _ _ q => by obtain ⟨rfl, rfl⟩ := q; exact h)
theorem s0_196q {rm : Room} {S : List Value} {H : AHeap} {Q : Option Value → AHeap → Prop} {l0 l1 l2 l3 l4 l5 l6 l7 l8 l9 l10 l11 l12 l13 l14 l15 l16 l17 l18 l19 l20 l21 l22 l23 l24 l25 l26 l27 : Slot} {rm' : Room} {Q' : Option Value → AHeap → Prop} {a0 : Value} (hM : M5 rm' [a0] H Q') (hr : rok rm rm' 2 S = true) (h : ∀ v H', Q' v H' → W0 (less rm rm') 199 [l0, l1, l2, l3, l4, l5, l6, l7, l8, l9, l10, l11, l12, l13, l14, l15, l16, l17, l18, l19, l20, l21, l22, l23, l24, l25, l26, l27] (v.toList ++ S) H' Q) : W0 rm 196 [l0, l1, l2, l3, l4, l5, l6, l7, l8, l9, l10, l11, l12, l13, l14, l15, l16, l17, l18, l19, l20, l21, l22, l23, l24, l25, l26, l27] (a0 :: S) H Q := W.callS (S := S) (as := [a0]) (rm' := rm') at_196 (List.mem_of_getElem? (i := 23) rfl) (List.mem_of_getElem? (i := 24) rfl) (List.mem_of_getElem? (i := 2) rfl) (List.mem_of_getElem? (i := 25) rfl) (by decide) pd4 rfl rfl hM hr h
theorem s0_199 {rm : Room} {S : List Value} {H : AHeap} {Q : Option Value → AHeap → Prop} {l0 l1 l2 l3 l4 l5 l6 l7 l8 l9 l10 l11 l12 l13 l14 l15 l16 l17 l18 l19 l20 l21 l22 l23 l24 l25 l26 l27 : Slot} {rm' : Room} {H' : AHeap} {i : Nat} {vs : List Value} {a0 : Int32} {a1 : Int32}  (hH : H[i]? = some (.inl (0, vs))) (hM : M6 rm' [.ref i, .int a0, .int a1] H (Is none H')) (hr : rok rm rm' 6 S = true) (h : W0 (less rm rm') 202 [l0, l1, l2, l3, l4, l5, l6, l7, l8, l9, l10, l11, l12, l13, l14, l15, l16, l17, l18, l19, l20, l21, l22, l23, l24, l25, l26, l27] (S) H' Q) : W0 rm 199 [l0, l1, l2, l3, l4, l5, l6, l7, l8, l9, l10, l11, l12, l13, l14, l15, l16, l17, l18, l19, l20, l21, l22, l23, l24, l25, l26, l27] (.int a1 :: .int a0 :: .ref i :: S) H Q := W.callV (c := 0) (S := S) (as := [.int a0, .int a1]) (rm' := rm') at_199 (List.mem_of_getElem? (i := 27) rfl) (List.mem_of_getElem? (i := 28) rfl) (List.mem_of_getElem? (i := 30) rfl) (Or.inl rfl) kt (List.mem_of_getElem? (i := 29) rfl) (List.mem_of_getElem? (i := 11) rfl) (List.mem_of_getElem? (i := 31) rfl) (by decide) rfl pd5 rfl rfl hH hM hr (fun _ _ q => by obtain ⟨rfl, rfl⟩ := q; exact h)
theorem s0_199q {rm : Room} {S : List Value} {H : AHeap} {Q : Option Value → AHeap → Prop} {l0 l1 l2 l3 l4 l5 l6 l7 l8 l9 l10 l11 l12 l13 l14 l15 l16 l17 l18 l19 l20 l21 l22 l23 l24 l25 l26 l27 : Slot} {rm' : Room} {Q' : Option Value → AHeap → Prop} {i : Nat} {vs : List Value} {a0 a1 : Value} (hH : H[i]? = some (.inl (0, vs))) (hM : M6 rm' [.ref i, a0, a1] H Q') (hr : rok rm rm' 6 S = true) (h : ∀ v H', Q' v H' → W0 (less rm rm') 202 [l0, l1, l2, l3, l4, l5, l6, l7, l8, l9, l10, l11, l12, l13, l14, l15, l16, l17, l18, l19, l20, l21, l22, l23, l24, l25, l26, l27] (v.toList ++ S) H' Q) : W0 rm 199 [l0, l1, l2, l3, l4, l5, l6, l7, l8, l9, l10, l11, l12, l13, l14, l15, l16, l17, l18, l19, l20, l21, l22, l23, l24, l25, l26, l27] (a1 :: a0 :: .ref i :: S) H Q := W.callV (c := 0) (S := S) (as := [a0, a1]) (rm' := rm') at_199 (List.mem_of_getElem? (i := 27) rfl) (List.mem_of_getElem? (i := 28) rfl) (List.mem_of_getElem? (i := 30) rfl) (Or.inl rfl) kt (List.mem_of_getElem? (i := 29) rfl) (List.mem_of_getElem? (i := 11) rfl) (List.mem_of_getElem? (i := 31) rfl) (by decide) rfl pd5 rfl rfl hH hM hr h
theorem s0_202 {rm : Room} {S : List Value} {H : AHeap} {Q : Option Value → AHeap → Prop} {l0 l1 l2 l3 l4 l5 l6 l7 l8 l9 l10 l11 l12 l13 l14 l15 l16 l17 l18 l19 l20 l21 l23 l24 l25 l26 l27 : Slot} {i : Nat} (h : W0 rm 204 [l0, l1, l2, l3, l4, l5, l6, l7, l8, l9, l10, l11, l12, l13, l14, l15, l16, l17, l18, l19, l20, l21, .val (.ref i), l23, l24, l25, l26, l27] (.ref i :: S) (H) Q) : W0 rm 202 [l0, l1, l2, l3, l4, l5, l6, l7, l8, l9, l10, l11, l12, l13, l14, l15, l16, l17, l18, l19, l20, l21, .val (.ref i), l23, l24, l25, l26, l27] (S) H Q := W.aload at_202 rfl rfl h
theorem s0_202n {rm : Room} {S : List Value} {H : AHeap} {Q : Option Value → AHeap → Prop} {l0 l1 l2 l3 l4 l5 l6 l7 l8 l9 l10 l11 l12 l13 l14 l15 l16 l17 l18 l19 l20 l21 l23 l24 l25 l26 l27 : Slot}  (h : W0 rm 204 [l0, l1, l2, l3, l4, l5, l6, l7, l8, l9, l10, l11, l12, l13, l14, l15, l16, l17, l18, l19, l20, l21, .val .null, l23, l24, l25, l26, l27] (.null :: S) (H) Q) : W0 rm 202 [l0, l1, l2, l3, l4, l5, l6, l7, l8, l9, l10, l11, l12, l13, l14, l15, l16, l17, l18, l19, l20, l21, .val .null, l23, l24, l25, l26, l27] (S) H Q := W.aload at_202 rfl rfl h
theorem s0_204 {rm : Room} {S : List Value} {H : AHeap} {Q : Option Value → AHeap → Prop} {l0 l1 l2 l3 l4 l5 l6 l7 l8 l9 l10 l11 l12 l13 l14 l15 l16 l18 l19 l20 l21 l22 l23 l24 l25 l26 l27 : Slot} {x : Int64} (h : W0 rm 206 [l0, l1, l2, l3, l4, l5, l6, l7, l8, l9, l10, l11, l12, l13, l14, l15, l16, .val (.long x), l18, l19, l20, l21, l22, l23, l24, l25, l26, l27] (.long x :: S) (H) Q) : W0 rm 204 [l0, l1, l2, l3, l4, l5, l6, l7, l8, l9, l10, l11, l12, l13, l14, l15, l16, .val (.long x), l18, l19, l20, l21, l22, l23, l24, l25, l26, l27] (S) H Q := W.lload at_204 rfl h
theorem s0_206 {rm : Room} {S : List Value} {H : AHeap} {Q : Option Value → AHeap → Prop} {l0 l1 l2 l3 l4 l5 l6 l7 l8 l9 l10 l11 l12 l13 l14 l15 l16 l17 l18 l19 l20 l21 l22 l23 l24 l25 l26 l27 : Slot} {rm' : Room} {H' : AHeap} {a0 : Int64} {r : Int32} (hM : M4 rm' [.long a0] H (Is (some (.int r)) H')) (hr : rok rm rm' 2 S = true) (h : W0 (less rm rm') 209 [l0, l1, l2, l3, l4, l5, l6, l7, l8, l9, l10, l11, l12, l13, l14, l15, l16, l17, l18, l19, l20, l21, l22, l23, l24, l25, l26, l27] (.int r :: S) H' Q) : W0 rm 206 [l0, l1, l2, l3, l4, l5, l6, l7, l8, l9, l10, l11, l12, l13, l14, l15, l16, l17, l18, l19, l20, l21, l22, l23, l24, l25, l26, l27] (.long a0 :: S) H Q := W.callS (S := S) (as := [.long a0]) (rm' := rm') at_206 (List.mem_of_getElem? (i := 20) rfl) (List.mem_of_getElem? (i := 21) rfl) (List.mem_of_getElem? (i := 2) rfl) (List.mem_of_getElem? (i := 22) rfl) (by decide) pd4 rfl rfl hM hr (fun _ _ q => by obtain ⟨rfl, rfl⟩ := q; exact h)
theorem s0_206q {rm : Room} {S : List Value} {H : AHeap} {Q : Option Value → AHeap → Prop} {l0 l1 l2 l3 l4 l5 l6 l7 l8 l9 l10 l11 l12 l13 l14 l15 l16 l17 l18 l19 l20 l21 l22 l23 l24 l25 l26 l27 : Slot} {rm' : Room} {Q' : Option Value → AHeap → Prop} {a0 : Value} (hM : M4 rm' [a0] H Q') (hr : rok rm rm' 2 S = true) (h : ∀ v H', Q' v H' → W0 (less rm rm') 209 [l0, l1, l2, l3, l4, l5, l6, l7, l8, l9, l10, l11, l12, l13, l14, l15, l16, l17, l18, l19, l20, l21, l22, l23, l24, l25, l26, l27] (v.toList ++ S) H' Q) : W0 rm 206 [l0, l1, l2, l3, l4, l5, l6, l7, l8, l9, l10, l11, l12, l13, l14, l15, l16, l17, l18, l19, l20, l21, l22, l23, l24, l25, l26, l27] (a0 :: S) H Q := W.callS (S := S) (as := [a0]) (rm' := rm') at_206 (List.mem_of_getElem? (i := 20) rfl) (List.mem_of_getElem? (i := 21) rfl) (List.mem_of_getElem? (i := 2) rfl) (List.mem_of_getElem? (i := 22) rfl) (by decide) pd4 rfl rfl hM hr h
theorem s0_209 {rm : Room} {S : List Value} {H : AHeap} {Q : Option Value → AHeap → Prop} {l0 l1 l2 l3 l4 l5 l6 l7 l8 l9 l10 l11 l12 l13 l14 l15 l16 l18 l19 l20 l21 l22 l23 l24 l25 l26 l27 : Slot} {x : Int64} (h : W0 rm 211 [l0, l1, l2, l3, l4, l5, l6, l7, l8, l9, l10, l11, l12, l13, l14, l15, l16, .val (.long x), l18, l19, l20, l21, l22, l23, l24, l25, l26, l27] (.long x :: S) (H) Q) : W0 rm 209 [l0, l1, l2, l3, l4, l5, l6, l7, l8, l9, l10, l11, l12, l13, l14, l15, l16, .val (.long x), l18, l19, l20, l21, l22, l23, l24, l25, l26, l27] (S) H Q := W.lload at_209 rfl h
theorem s0_211 {rm : Room} {S : List Value} {H : AHeap} {Q : Option Value → AHeap → Prop} {l0 l1 l2 l3 l4 l5 l6 l7 l8 l9 l10 l11 l12 l13 l14 l15 l16 l17 l18 l19 l20 l21 l22 l23 l24 l25 l26 l27 : Slot} {rm' : Room} {H' : AHeap} {a0 : Int64} {r : Int32} (hM : M5 rm' [.long a0] H (Is (some (.int r)) H')) (hr : rok rm rm' 2 S = true) (h : W0 (less rm rm') 214 [l0, l1, l2, l3, l4, l5, l6, l7, l8, l9, l10, l11, l12, l13, l14, l15, l16, l17, l18, l19, l20, l21, l22, l23, l24, l25, l26, l27] (.int r :: S) H' Q) : W0 rm 211 [l0, l1, l2, l3, l4, l5, l6, l7, l8, l9, l10, l11, l12, l13, l14, l15, l16, l17, l18, l19, l20, l21, l22, l23, l24, l25, l26, l27] (.long a0 :: S) H Q := W.callS (S := S) (as := [.long a0]) (rm' := rm') at_211 (List.mem_of_getElem? (i := 23) rfl) (List.mem_of_getElem? (i := 24) rfl) (List.mem_of_getElem? (i := 2) rfl) (List.mem_of_getElem? (i := 25) rfl) (by decide) pd4 rfl rfl hM hr (fun _ _ q => by obtain ⟨rfl, rfl⟩ := q; exact h)
theorem s0_211q {rm : Room} {S : List Value} {H : AHeap} {Q : Option Value → AHeap → Prop} {l0 l1 l2 l3 l4 l5 l6 l7 l8 l9 l10 l11 l12 l13 l14 l15 l16 l17 l18 l19 l20 l21 l22 l23 l24 l25 l26 l27 : Slot} {rm' : Room} {Q' : Option Value → AHeap → Prop} {a0 : Value} (hM : M5 rm' [a0] H Q') (hr : rok rm rm' 2 S = true) (h : ∀ v H', Q' v H' → W0 (less rm rm') 214 [l0, l1, l2, l3, l4, l5, l6, l7, l8, l9, l10, l11, l12, l13, l14, l15, l16, l17, l18, l19, l20, l21, l22, l23, l24, l25, l26, l27] (v.toList ++ S) H' Q) : W0 rm 211 [l0, l1, l2, l3, l4, l5, l6, l7, l8, l9, l10, l11, l12, l13, l14, l15, l16, l17, l18, l19, l20, l21, l22, l23, l24, l25, l26, l27] (a0 :: S) H Q := W.callS (S := S) (as := [a0]) (rm' := rm') at_211 (List.mem_of_getElem? (i := 23) rfl) (List.mem_of_getElem? (i := 24) rfl) (List.mem_of_getElem? (i := 2) rfl) (List.mem_of_getElem? (i := 25) rfl) (by decide) pd4 rfl rfl hM hr h
theorem s0_214 {rm : Room} {S : List Value} {H : AHeap} {Q : Option Value → AHeap → Prop} {l0 l1 l2 l3 l4 l5 l6 l7 l8 l9 l10 l11 l12 l13 l14 l15 l16 l17 l18 l19 l20 l21 l22 l23 l24 l25 l26 l27 : Slot} {rm' : Room} {H' : AHeap} {i : Nat} {vs : List Value} {a0 : Int32} {a1 : Int32}  (hH : H[i]? = some (.inl (0, vs))) (hM : M6 rm' [.ref i, .int a0, .int a1] H (Is none H')) (hr : rok rm rm' 6 S = true) (h : W0 (less rm rm') 217 [l0, l1, l2, l3, l4, l5, l6, l7, l8, l9, l10, l11, l12, l13, l14, l15, l16, l17, l18, l19, l20, l21, l22, l23, l24, l25, l26, l27] (S) H' Q) : W0 rm 214 [l0, l1, l2, l3, l4, l5, l6, l7, l8, l9, l10, l11, l12, l13, l14, l15, l16, l17, l18, l19, l20, l21, l22, l23, l24, l25, l26, l27] (.int a1 :: .int a0 :: .ref i :: S) H Q := W.callV (c := 0) (S := S) (as := [.int a0, .int a1]) (rm' := rm') at_214 (List.mem_of_getElem? (i := 27) rfl) (List.mem_of_getElem? (i := 28) rfl) (List.mem_of_getElem? (i := 30) rfl) (Or.inl rfl) kt (List.mem_of_getElem? (i := 29) rfl) (List.mem_of_getElem? (i := 11) rfl) (List.mem_of_getElem? (i := 31) rfl) (by decide) rfl pd5 rfl rfl hH hM hr (fun _ _ q => by obtain ⟨rfl, rfl⟩ := q; exact h)
theorem s0_214q {rm : Room} {S : List Value} {H : AHeap} {Q : Option Value → AHeap → Prop} {l0 l1 l2 l3 l4 l5 l6 l7 l8 l9 l10 l11 l12 l13 l14 l15 l16 l17 l18 l19 l20 l21 l22 l23 l24 l25 l26 l27 : Slot} {rm' : Room} {Q' : Option Value → AHeap → Prop} {i : Nat} {vs : List Value} {a0 a1 : Value} (hH : H[i]? = some (.inl (0, vs))) (hM : M6 rm' [.ref i, a0, a1] H Q') (hr : rok rm rm' 6 S = true) (h : ∀ v H', Q' v H' → W0 (less rm rm') 217 [l0, l1, l2, l3, l4, l5, l6, l7, l8, l9, l10, l11, l12, l13, l14, l15, l16, l17, l18, l19, l20, l21, l22, l23, l24, l25, l26, l27] (v.toList ++ S) H' Q) : W0 rm 214 [l0, l1, l2, l3, l4, l5, l6, l7, l8, l9, l10, l11, l12, l13, l14, l15, l16, l17, l18, l19, l20, l21, l22, l23, l24, l25, l26, l27] (a1 :: a0 :: .ref i :: S) H Q := W.callV (c := 0) (S := S) (as := [a0, a1]) (rm' := rm') at_214 (List.mem_of_getElem? (i := 27) rfl) (List.mem_of_getElem? (i := 28) rfl) (List.mem_of_getElem? (i := 30) rfl) (Or.inl rfl) kt (List.mem_of_getElem? (i := 29) rfl) (List.mem_of_getElem? (i := 11) rfl) (List.mem_of_getElem? (i := 31) rfl) (by decide) rfl pd5 rfl rfl hH hM hr h
theorem s0_217 {rm : Room} {S : List Value} {H : AHeap} {Q : Option Value → AHeap → Prop} {l0 l1 l2 l3 l4 l5 l6 l7 l8 l9 l10 l11 l12 l13 l14 l15 l16 l17 l18 l19 l20 l21 l23 l24 l25 l26 l27 : Slot} {i : Nat} (h : W0 rm 219 [l0, l1, l2, l3, l4, l5, l6, l7, l8, l9, l10, l11, l12, l13, l14, l15, l16, l17, l18, l19, l20, l21, .val (.ref i), l23, l24, l25, l26, l27] (.ref i :: S) (H) Q) : W0 rm 217 [l0, l1, l2, l3, l4, l5, l6, l7, l8, l9, l10, l11, l12, l13, l14, l15, l16, l17, l18, l19, l20, l21, .val (.ref i), l23, l24, l25, l26, l27] (S) H Q := W.aload at_217 rfl rfl h
theorem s0_217n {rm : Room} {S : List Value} {H : AHeap} {Q : Option Value → AHeap → Prop} {l0 l1 l2 l3 l4 l5 l6 l7 l8 l9 l10 l11 l12 l13 l14 l15 l16 l17 l18 l19 l20 l21 l23 l24 l25 l26 l27 : Slot}  (h : W0 rm 219 [l0, l1, l2, l3, l4, l5, l6, l7, l8, l9, l10, l11, l12, l13, l14, l15, l16, l17, l18, l19, l20, l21, .val .null, l23, l24, l25, l26, l27] (.null :: S) (H) Q) : W0 rm 217 [l0, l1, l2, l3, l4, l5, l6, l7, l8, l9, l10, l11, l12, l13, l14, l15, l16, l17, l18, l19, l20, l21, .val .null, l23, l24, l25, l26, l27] (S) H Q := W.aload at_217 rfl rfl h
theorem s0_219 {rm : Room} {S : List Value} {H : AHeap} {Q : Option Value → AHeap → Prop} {l0 l1 l2 l3 l4 l5 l6 l7 l8 l9 l10 l11 l12 l13 l14 l15 l16 l17 l18 l20 l21 l22 l23 l24 l25 l26 l27 : Slot} {x : Int64} (h : W0 rm 221 [l0, l1, l2, l3, l4, l5, l6, l7, l8, l9, l10, l11, l12, l13, l14, l15, l16, l17, l18, .val (.long x), l20, l21, l22, l23, l24, l25, l26, l27] (.long x :: S) (H) Q) : W0 rm 219 [l0, l1, l2, l3, l4, l5, l6, l7, l8, l9, l10, l11, l12, l13, l14, l15, l16, l17, l18, .val (.long x), l20, l21, l22, l23, l24, l25, l26, l27] (S) H Q := W.lload at_219 rfl h
theorem s0_221 {rm : Room} {S : List Value} {H : AHeap} {Q : Option Value → AHeap → Prop} {l0 l1 l2 l3 l4 l5 l6 l7 l8 l9 l10 l11 l12 l13 l14 l15 l16 l17 l18 l19 l20 l21 l22 l23 l24 l25 l26 l27 : Slot} {rm' : Room} {H' : AHeap} {a0 : Int64} {r : Int32} (hM : M4 rm' [.long a0] H (Is (some (.int r)) H')) (hr : rok rm rm' 2 S = true) (h : W0 (less rm rm') 224 [l0, l1, l2, l3, l4, l5, l6, l7, l8, l9, l10, l11, l12, l13, l14, l15, l16, l17, l18, l19, l20, l21, l22, l23, l24, l25, l26, l27] (.int r :: S) H' Q) : W0 rm 221 [l0, l1, l2, l3, l4, l5, l6, l7, l8, l9, l10, l11, l12, l13, l14, l15, l16, l17, l18, l19, l20, l21, l22, l23, l24, l25, l26, l27] (.long a0 :: S) H Q := W.callS (S := S) (as := [.long a0]) (rm' := rm') at_221 (List.mem_of_getElem? (i := 20) rfl) (List.mem_of_getElem? (i := 21) rfl) (List.mem_of_getElem? (i := 2) rfl) (List.mem_of_getElem? (i := 22) rfl) (by decide) pd4 rfl rfl hM hr (fun _ _ q => by obtain ⟨rfl, rfl⟩ := q; exact h)
theorem s0_221q {rm : Room} {S : List Value} {H : AHeap} {Q : Option Value → AHeap → Prop} {l0 l1 l2 l3 l4 l5 l6 l7 l8 l9 l10 l11 l12 l13 l14 l15 l16 l17 l18 l19 l20 l21 l22 l23 l24 l25 l26 l27 : Slot} {rm' : Room} {Q' : Option Value → AHeap → Prop} {a0 : Value} (hM : M4 rm' [a0] H Q') (hr : rok rm rm' 2 S = true) (h : ∀ v H', Q' v H' → W0 (less rm rm') 224 [l0, l1, l2, l3, l4, l5, l6, l7, l8, l9, l10, l11, l12, l13, l14, l15, l16, l17, l18, l19, l20, l21, l22, l23, l24, l25, l26, l27] (v.toList ++ S) H' Q) : W0 rm 221 [l0, l1, l2, l3, l4, l5, l6, l7, l8, l9, l10, l11, l12, l13, l14, l15, l16, l17, l18, l19, l20, l21, l22, l23, l24, l25, l26, l27] (a0 :: S) H Q := W.callS (S := S) (as := [a0]) (rm' := rm') at_221 (List.mem_of_getElem? (i := 20) rfl) (List.mem_of_getElem? (i := 21) rfl) (List.mem_of_getElem? (i := 2) rfl) (List.mem_of_getElem? (i := 22) rfl) (by decide) pd4 rfl rfl hM hr h
theorem s0_224 {rm : Room} {S : List Value} {H : AHeap} {Q : Option Value → AHeap → Prop} {l0 l1 l2 l3 l4 l5 l6 l7 l8 l9 l10 l11 l12 l13 l14 l15 l16 l17 l18 l20 l21 l22 l23 l24 l25 l26 l27 : Slot} {x : Int64} (h : W0 rm 226 [l0, l1, l2, l3, l4, l5, l6, l7, l8, l9, l10, l11, l12, l13, l14, l15, l16, l17, l18, .val (.long x), l20, l21, l22, l23, l24, l25, l26, l27] (.long x :: S) (H) Q) : W0 rm 224 [l0, l1, l2, l3, l4, l5, l6, l7, l8, l9, l10, l11, l12, l13, l14, l15, l16, l17, l18, .val (.long x), l20, l21, l22, l23, l24, l25, l26, l27] (S) H Q := W.lload at_224 rfl h
theorem s0_226 {rm : Room} {S : List Value} {H : AHeap} {Q : Option Value → AHeap → Prop} {l0 l1 l2 l3 l4 l5 l6 l7 l8 l9 l10 l11 l12 l13 l14 l15 l16 l17 l18 l19 l20 l21 l22 l23 l24 l25 l26 l27 : Slot} {rm' : Room} {H' : AHeap} {a0 : Int64} {r : Int32} (hM : M5 rm' [.long a0] H (Is (some (.int r)) H')) (hr : rok rm rm' 2 S = true) (h : W0 (less rm rm') 229 [l0, l1, l2, l3, l4, l5, l6, l7, l8, l9, l10, l11, l12, l13, l14, l15, l16, l17, l18, l19, l20, l21, l22, l23, l24, l25, l26, l27] (.int r :: S) H' Q) : W0 rm 226 [l0, l1, l2, l3, l4, l5, l6, l7, l8, l9, l10, l11, l12, l13, l14, l15, l16, l17, l18, l19, l20, l21, l22, l23, l24, l25, l26, l27] (.long a0 :: S) H Q := W.callS (S := S) (as := [.long a0]) (rm' := rm') at_226 (List.mem_of_getElem? (i := 23) rfl) (List.mem_of_getElem? (i := 24) rfl) (List.mem_of_getElem? (i := 2) rfl) (List.mem_of_getElem? (i := 25) rfl) (by decide) pd4 rfl rfl hM hr (fun _ _ q => by obtain ⟨rfl, rfl⟩ := q; exact h)
theorem s0_226q {rm : Room} {S : List Value} {H : AHeap} {Q : Option Value → AHeap → Prop} {l0 l1 l2 l3 l4 l5 l6 l7 l8 l9 l10 l11 l12 l13 l14 l15 l16 l17 l18 l19 l20 l21 l22 l23 l24 l25 l26 l27 : Slot} {rm' : Room} {Q' : Option Value → AHeap → Prop} {a0 : Value} (hM : M5 rm' [a0] H Q') (hr : rok rm rm' 2 S = true) (h : ∀ v H', Q' v H' → W0 (less rm rm') 229 [l0, l1, l2, l3, l4, l5, l6, l7, l8, l9, l10, l11, l12, l13, l14, l15, l16, l17, l18, l19, l20, l21, l22, l23, l24, l25, l26, l27] (v.toList ++ S) H' Q) : W0 rm 226 [l0, l1, l2, l3, l4, l5, l6, l7, l8, l9, l10, l11, l12, l13, l14, l15, l16, l17, l18, l19, l20, l21, l22, l23, l24, l25, l26, l27] (a0 :: S) H Q := W.callS (S := S) (as := [a0]) (rm' := rm') at_226 (List.mem_of_getElem? (i := 23) rfl) (List.mem_of_getElem? (i := 24) rfl) (List.mem_of_getElem? (i := 2) rfl) (List.mem_of_getElem? (i := 25) rfl) (by decide) pd4 rfl rfl hM hr h
theorem s0_229 {rm : Room} {S : List Value} {H : AHeap} {Q : Option Value → AHeap → Prop} {l0 l1 l2 l3 l4 l5 l6 l7 l8 l9 l10 l11 l12 l13 l14 l15 l16 l17 l18 l19 l20 l21 l22 l23 l24 l25 l26 l27 : Slot} {rm' : Room} {H' : AHeap} {i : Nat} {vs : List Value} {a0 : Int32} {a1 : Int32}  (hH : H[i]? = some (.inl (0, vs))) (hM : M6 rm' [.ref i, .int a0, .int a1] H (Is none H')) (hr : rok rm rm' 6 S = true) (h : W0 (less rm rm') 232 [l0, l1, l2, l3, l4, l5, l6, l7, l8, l9, l10, l11, l12, l13, l14, l15, l16, l17, l18, l19, l20, l21, l22, l23, l24, l25, l26, l27] (S) H' Q) : W0 rm 229 [l0, l1, l2, l3, l4, l5, l6, l7, l8, l9, l10, l11, l12, l13, l14, l15, l16, l17, l18, l19, l20, l21, l22, l23, l24, l25, l26, l27] (.int a1 :: .int a0 :: .ref i :: S) H Q := W.callV (c := 0) (S := S) (as := [.int a0, .int a1]) (rm' := rm') at_229 (List.mem_of_getElem? (i := 27) rfl) (List.mem_of_getElem? (i := 28) rfl) (List.mem_of_getElem? (i := 30) rfl) (Or.inl rfl) kt (List.mem_of_getElem? (i := 29) rfl) (List.mem_of_getElem? (i := 11) rfl) (List.mem_of_getElem? (i := 31) rfl) (by decide) rfl pd5 rfl rfl hH hM hr (fun _ _ q => by obtain ⟨rfl, rfl⟩ := q; exact h)
theorem s0_229q {rm : Room} {S : List Value} {H : AHeap} {Q : Option Value → AHeap → Prop} {l0 l1 l2 l3 l4 l5 l6 l7 l8 l9 l10 l11 l12 l13 l14 l15 l16 l17 l18 l19 l20 l21 l22 l23 l24 l25 l26 l27 : Slot} {rm' : Room} {Q' : Option Value → AHeap → Prop} {i : Nat} {vs : List Value} {a0 a1 : Value} (hH : H[i]? = some (.inl (0, vs))) (hM : M6 rm' [.ref i, a0, a1] H Q') (hr : rok rm rm' 6 S = true) (h : ∀ v H', Q' v H' → W0 (less rm rm') 232 [l0, l1, l2, l3, l4, l5, l6, l7, l8, l9, l10, l11, l12, l13, l14, l15, l16, l17, l18, l19, l20, l21, l22, l23, l24, l25, l26, l27] (v.toList ++ S) H' Q) : W0 rm 229 [l0, l1, l2, l3, l4, l5, l6, l7, l8, l9, l10, l11, l12, l13, l14, l15, l16, l17, l18, l19, l20, l21, l22, l23, l24, l25, l26, l27] (a1 :: a0 :: .ref i :: S) H Q := W.callV (c := 0) (S := S) (as := [a0, a1]) (rm' := rm') at_229 (List.mem_of_getElem? (i := 27) rfl) (List.mem_of_getElem? (i := 28) rfl) (List.mem_of_getElem? (i := 30) rfl) (Or.inl rfl) kt (List.mem_of_getElem? (i := 29) rfl) (List.mem_of_getElem? (i := 11) rfl) (List.mem_of_getElem? (i := 31) rfl) (by decide) rfl pd5 rfl rfl hH hM hr h
theorem s0_232 {rm : Room} {S : List Value} {H : AHeap} {Q : Option Value → AHeap → Prop} {l0 l1 l2 l3 l4 l5 l6 l7 l8 l9 l10 l11 l12 l13 l14 l15 l16 l17 l18 l19 l20 l21 l23 l24 l25 l26 l27 : Slot} {i : Nat} (h : W0 rm 234 [l0, l1, l2, l3, l4, l5, l6, l7, l8, l9, l10, l11, l12, l13, l14, l15, l16, l17, l18, l19, l20, l21, .val (.ref i), l23, l24, l25, l26, l27] (.ref i :: S) (H) Q) : W0 rm 232 [l0, l1, l2, l3, l4, l5, l6, l7, l8, l9, l10, l11, l12, l13, l14, l15, l16, l17, l18, l19, l20, l21, .val (.ref i), l23, l24, l25, l26, l27] (S) H Q := W.aload at_232 rfl rfl h
theorem s0_232n {rm : Room} {S : List Value} {H : AHeap} {Q : Option Value → AHeap → Prop} {l0 l1 l2 l3 l4 l5 l6 l7 l8 l9 l10 l11 l12 l13 l14 l15 l16 l17 l18 l19 l20 l21 l23 l24 l25 l26 l27 : Slot}  (h : W0 rm 234 [l0, l1, l2, l3, l4, l5, l6, l7, l8, l9, l10, l11, l12, l13, l14, l15, l16, l17, l18, l19, l20, l21, .val .null, l23, l24, l25, l26, l27] (.null :: S) (H) Q) : W0 rm 232 [l0, l1, l2, l3, l4, l5, l6, l7, l8, l9, l10, l11, l12, l13, l14, l15, l16, l17, l18, l19, l20, l21, .val .null, l23, l24, l25, l26, l27] (S) H Q := W.aload at_232 rfl rfl h
theorem s0_234 {rm : Room} {S : List Value} {H : AHeap} {Q : Option Value → AHeap → Prop} {l0 l1 l2 l3 l4 l5 l6 l7 l8 l9 l10 l11 l12 l13 l14 l15 l16 l17 l18 l19 l20 l21 l22 l23 l24 l25 l26 l27 : Slot} {rm' : Room} {H' : AHeap} {i : Nat} {vs : List Value}  {r : Int32} (hH : H[i]? = some (.inl (0, vs))) (hM : M7 rm' [.ref i] H (Is (some (.int r)) H')) (hr : rok rm rm' 6 S = true) (h : W0 (less rm rm') 237 [l0, l1, l2, l3, l4, l5, l6, l7, l8, l9, l10, l11, l12, l13, l14, l15, l16, l17, l18, l19, l20, l21, l22, l23, l24, l25, l26, l27] (.int r :: S) H' Q) : W0 rm 234 [l0, l1, l2, l3, l4, l5, l6, l7, l8, l9, l10, l11, l12, l13, l14, l15, l16, l17, l18, l19, l20, l21, l22, l23, l24, l25, l26, l27] (.ref i :: S) H Q := W.callV (c := 0) (S := S) (as := []) (rm' := rm') at_234 (List.mem_of_getElem? (i := 34) rfl) (List.mem_of_getElem? (i := 35) rfl) (List.mem_of_getElem? (i := 37) rfl) (Or.inl rfl) kt (List.mem_of_getElem? (i := 36) rfl) (List.mem_of_getElem? (i := 11) rfl) (List.mem_of_getElem? (i := 38) rfl) (by decide) rfl pd6 rfl rfl hH hM hr (fun _ _ q => by obtain ⟨rfl, rfl⟩ := q; exact h)
theorem s0_234q {rm : Room} {S : List Value} {H : AHeap} {Q : Option Value → AHeap → Prop} {l0 l1 l2 l3 l4 l5 l6 l7 l8 l9 l10 l11 l12 l13 l14 l15 l16 l17 l18 l19 l20 l21 l22 l23 l24 l25 l26 l27 : Slot} {rm' : Room} {Q' : Option Value → AHeap → Prop} {i : Nat} {vs : List Value}  (hH : H[i]? = some (.inl (0, vs))) (hM : M7 rm' [.ref i] H Q') (hr : rok rm rm' 6 S = true) (h : ∀ v H', Q' v H' → W0 (less rm rm') 237 [l0, l1, l2, l3, l4, l5, l6, l7, l8, l9, l10, l11, l12, l13, l14, l15, l16, l17, l18, l19, l20, l21, l22, l23, l24, l25, l26, l27] (v.toList ++ S) H' Q) : W0 rm 234 [l0, l1, l2, l3, l4, l5, l6, l7, l8, l9, l10, l11, l12, l13, l14, l15, l16, l17, l18, l19, l20, l21, l22, l23, l24, l25, l26, l27] (.ref i :: S) H Q := W.callV (c := 0) (S := S) (as := []) (rm' := rm') at_234 (List.mem_of_getElem? (i := 34) rfl) (List.mem_of_getElem? (i := 35) rfl) (List.mem_of_getElem? (i := 37) rfl) (Or.inl rfl) kt (List.mem_of_getElem? (i := 36) rfl) (List.mem_of_getElem? (i := 11) rfl) (List.mem_of_getElem? (i := 38) rfl) (by decide) rfl pd6 rfl rfl hH hM hr h
theorem s0_237 {rm : Room} {S : List Value} {H : AHeap} {Q : Option Value → AHeap → Prop} {l0 l1 l2 l3 l4 l5 l6 l7 l8 l9 l10 l11 l12 l13 l14 l15 l16 l17 l18 l19 l20 l21 l22 l23 l24 l25 l26 l27 : Slot} {x : Int32} (ho : one l23 = true) (h : W0 rm 239 [l0, l1, l2, l3, l4, l5, l6, l7, l8, l9, l10, l11, l12, l13, l14, l15, l16, l17, l18, l19, l20, l21, l22, .val (.int x), l24, l25, l26, l27] (S) (H) Q) : W0 rm 237 [l0, l1, l2, l3, l4, l5, l6, l7, l8, l9, l10, l11, l12, l13, l14, l15, l16, l17, l18, l19, l20, l21, l22, l23, l24, l25, l26, l27] (.int x :: S) H Q := W.istore at_237 rfl ho h
theorem s0_237w {rm : Room} {S : List Value} {H : AHeap} {Q : Option Value → AHeap → Prop} {l0 l1 l2 l3 l4 l5 l6 l7 l8 l9 l10 l11 l12 l13 l14 l15 l16 l17 l18 l19 l20 l21 l22 l24 l25 l26 l27 : Slot} {w : Value} {x : Int32} (ho : w.category = 2) (h : W0 rm 239 [l0, l1, l2, l3, l4, l5, l6, l7, l8, l9, l10, l11, l12, l13, l14, l15, l16, l17, l18, l19, l20, l21, l22, .val (.int x), .unset, l25, l26, l27] (S) (H) Q) : W0 rm 237 [l0, l1, l2, l3, l4, l5, l6, l7, l8, l9, l10, l11, l12, l13, l14, l15, l16, l17, l18, l19, l20, l21, l22, .val w, l24, l25, l26, l27] (.int x :: S) H Q := W.istoreW at_237 rfl ho (Nat.le_of_ble_eq_true rfl) h
theorem s0_237s {rm : Room} {S : List Value} {H : AHeap} {Q : Option Value → AHeap → Prop} {l0 l1 l2 l3 l4 l5 l6 l7 l8 l9 l10 l11 l12 l13 l14 l15 l16 l17 l18 l19 l20 l21 l22 l24 l25 l26 l27 : Slot} {x : Int32} (h : W0 rm 239 [l0, l1, l2, l3, l4, l5, l6, l7, l8, l9, l10, l11, l12, l13, l14, l15, l16, l17, l18, l19, l20, l21, .unset, .val (.int x), l24, l25, l26, l27] (S) (H) Q) : W0 rm 237 [l0, l1, l2, l3, l4, l5, l6, l7, l8, l9, l10, l11, l12, l13, l14, l15, l16, l17, l18, l19, l20, l21, l22, .second, l24, l25, l26, l27] (.int x :: S) H Q := W.istoreS at_237 rfl (by decide) h
theorem s0_239 {rm : Room} {S : List Value} {H : AHeap} {Q : Option Value → AHeap → Prop} {l0 l1 l2 l3 l4 l5 l6 l7 l8 l9 l10 l11 l12 l13 l14 l15 l16 l17 l18 l19 l20 l21 l23 l24 l25 l26 l27 : Slot} {i : Nat} (h : W0 rm 241 [l0, l1, l2, l3, l4, l5, l6, l7, l8, l9, l10, l11, l12, l13, l14, l15, l16, l17, l18, l19, l20, l21, .val (.ref i), l23, l24, l25, l26, l27] (.ref i :: S) (H) Q) : W0 rm 239 [l0, l1, l2, l3, l4, l5, l6, l7, l8, l9, l10, l11, l12, l13, l14, l15, l16, l17, l18, l19, l20, l21, .val (.ref i), l23, l24, l25, l26, l27] (S) H Q := W.aload at_239 rfl rfl h
theorem s0_239n {rm : Room} {S : List Value} {H : AHeap} {Q : Option Value → AHeap → Prop} {l0 l1 l2 l3 l4 l5 l6 l7 l8 l9 l10 l11 l12 l13 l14 l15 l16 l17 l18 l19 l20 l21 l23 l24 l25 l26 l27 : Slot}  (h : W0 rm 241 [l0, l1, l2, l3, l4, l5, l6, l7, l8, l9, l10, l11, l12, l13, l14, l15, l16, l17, l18, l19, l20, l21, .val .null, l23, l24, l25, l26, l27] (.null :: S) (H) Q) : W0 rm 239 [l0, l1, l2, l3, l4, l5, l6, l7, l8, l9, l10, l11, l12, l13, l14, l15, l16, l17, l18, l19, l20, l21, .val .null, l23, l24, l25, l26, l27] (S) H Q := W.aload at_239 rfl rfl h
theorem s0_241 {rm : Room} {S : List Value} {H : AHeap} {Q : Option Value → AHeap → Prop} {l0 l1 l2 l3 l4 l5 l6 l7 l8 l9 l10 l11 l12 l13 l14 l15 l16 l17 l18 l19 l20 l21 l22 l23 l24 l25 l26 l27 : Slot} {rm' : Room} {H' : AHeap} {i : Nat} {vs : List Value}  {r : Int32} (hH : H[i]? = some (.inl (0, vs))) (hM : M7 rm' [.ref i] H (Is (some (.int r)) H')) (hr : rok rm rm' 6 S = true) (h : W0 (less rm rm') 244 [l0, l1, l2, l3, l4, l5, l6, l7, l8, l9, l10, l11, l12, l13, l14, l15, l16, l17, l18, l19, l20, l21, l22, l23, l24, l25, l26, l27] (.int r :: S) H' Q) : W0 rm 241 [l0, l1, l2, l3, l4, l5, l6, l7, l8, l9, l10, l11, l12, l13, l14, l15, l16, l17, l18, l19, l20, l21, l22, l23, l24, l25, l26, l27] (.ref i :: S) H Q := W.callV (c := 0) (S := S) (as := []) (rm' := rm') at_241 (List.mem_of_getElem? (i := 34) rfl) (List.mem_of_getElem? (i := 35) rfl) (List.mem_of_getElem? (i := 37) rfl) (Or.inl rfl) kt (List.mem_of_getElem? (i := 36) rfl) (List.mem_of_getElem? (i := 11) rfl) (List.mem_of_getElem? (i := 38) rfl) (by decide) rfl pd6 rfl rfl hH hM hr (fun _ _ q => by obtain ⟨rfl, rfl⟩ := q; exact h)
theorem s0_241q {rm : Room} {S : List Value} {H : AHeap} {Q : Option Value → AHeap → Prop} {l0 l1 l2 l3 l4 l5 l6 l7 l8 l9 l10 l11 l12 l13 l14 l15 l16 l17 l18 l19 l20 l21 l22 l23 l24 l25 l26 l27 : Slot} {rm' : Room} {Q' : Option Value → AHeap → Prop} {i : Nat} {vs : List Value}  (hH : H[i]? = some (.inl (0, vs))) (hM : M7 rm' [.ref i] H Q') (hr : rok rm rm' 6 S = true) (h : ∀ v H', Q' v H' → W0 (less rm rm') 244 [l0, l1, l2, l3, l4, l5, l6, l7, l8, l9, l10, l11, l12, l13, l14, l15, l16, l17, l18, l19, l20, l21, l22, l23, l24, l25, l26, l27] (v.toList ++ S) H' Q) : W0 rm 241 [l0, l1, l2, l3, l4, l5, l6, l7, l8, l9, l10, l11, l12, l13, l14, l15, l16, l17, l18, l19, l20, l21, l22, l23, l24, l25, l26, l27] (.ref i :: S) H Q := W.callV (c := 0) (S := S) (as := []) (rm' := rm') at_241 (List.mem_of_getElem? (i := 34) rfl) (List.mem_of_getElem? (i := 35) rfl) (List.mem_of_getElem? (i := 37) rfl) (Or.inl rfl) kt (List.mem_of_getElem? (i := 36) rfl) (List.mem_of_getElem? (i := 11) rfl) (List.mem_of_getElem? (i := 38) rfl) (by decide) rfl pd6 rfl rfl hH hM hr h
theorem s0_244 {rm : Room} {S : List Value} {H : AHeap} {Q : Option Value → AHeap → Prop} {l0 l1 l2 l3 l4 l5 l6 l7 l8 l9 l10 l11 l12 l13 l14 l15 l16 l17 l18 l19 l20 l21 l22 l23 l24 l25 l26 l27 : Slot} {x : Int32} (ho : one l24 = true) (h : W0 rm 246 [l0, l1, l2, l3, l4, l5, l6, l7, l8, l9, l10, l11, l12, l13, l14, l15, l16, l17, l18, l19, l20, l21, l22, l23, .val (.int x), l25, l26, l27] (S) (H) Q) : W0 rm 244 [l0, l1, l2, l3, l4, l5, l6, l7, l8, l9, l10, l11, l12, l13, l14, l15, l16, l17, l18, l19, l20, l21, l22, l23, l24, l25, l26, l27] (.int x :: S) H Q := W.istore at_244 rfl ho h
theorem s0_244w {rm : Room} {S : List Value} {H : AHeap} {Q : Option Value → AHeap → Prop} {l0 l1 l2 l3 l4 l5 l6 l7 l8 l9 l10 l11 l12 l13 l14 l15 l16 l17 l18 l19 l20 l21 l22 l23 l25 l26 l27 : Slot} {w : Value} {x : Int32} (ho : w.category = 2) (h : W0 rm 246 [l0, l1, l2, l3, l4, l5, l6, l7, l8, l9, l10, l11, l12, l13, l14, l15, l16, l17, l18, l19, l20, l21, l22, l23, .val (.int x), .unset, l26, l27] (S) (H) Q) : W0 rm 244 [l0, l1, l2, l3, l4, l5, l6, l7, l8, l9, l10, l11, l12, l13, l14, l15, l16, l17, l18, l19, l20, l21, l22, l23, .val w, l25, l26, l27] (.int x :: S) H Q := W.istoreW at_244 rfl ho (Nat.le_of_ble_eq_true rfl) h
theorem s0_244s {rm : Room} {S : List Value} {H : AHeap} {Q : Option Value → AHeap → Prop} {l0 l1 l2 l3 l4 l5 l6 l7 l8 l9 l10 l11 l12 l13 l14 l15 l16 l17 l18 l19 l20 l21 l22 l23 l25 l26 l27 : Slot} {x : Int32} (h : W0 rm 246 [l0, l1, l2, l3, l4, l5, l6, l7, l8, l9, l10, l11, l12, l13, l14, l15, l16, l17, l18, l19, l20, l21, l22, .unset, .val (.int x), l25, l26, l27] (S) (H) Q) : W0 rm 244 [l0, l1, l2, l3, l4, l5, l6, l7, l8, l9, l10, l11, l12, l13, l14, l15, l16, l17, l18, l19, l20, l21, l22, l23, .second, l25, l26, l27] (.int x :: S) H Q := W.istoreS at_244 rfl (by decide) h
theorem s0_246 {rm : Room} {S : List Value} {H : AHeap} {Q : Option Value → AHeap → Prop} {l0 l1 l2 l3 l4 l5 l6 l7 l8 l9 l10 l11 l12 l13 l14 l15 l16 l17 l18 l19 l20 l21 l23 l24 l25 l26 l27 : Slot} {i : Nat} (h : W0 rm 248 [l0, l1, l2, l3, l4, l5, l6, l7, l8, l9, l10, l11, l12, l13, l14, l15, l16, l17, l18, l19, l20, l21, .val (.ref i), l23, l24, l25, l26, l27] (.ref i :: S) (H) Q) : W0 rm 246 [l0, l1, l2, l3, l4, l5, l6, l7, l8, l9, l10, l11, l12, l13, l14, l15, l16, l17, l18, l19, l20, l21, .val (.ref i), l23, l24, l25, l26, l27] (S) H Q := W.aload at_246 rfl rfl h
theorem s0_246n {rm : Room} {S : List Value} {H : AHeap} {Q : Option Value → AHeap → Prop} {l0 l1 l2 l3 l4 l5 l6 l7 l8 l9 l10 l11 l12 l13 l14 l15 l16 l17 l18 l19 l20 l21 l23 l24 l25 l26 l27 : Slot}  (h : W0 rm 248 [l0, l1, l2, l3, l4, l5, l6, l7, l8, l9, l10, l11, l12, l13, l14, l15, l16, l17, l18, l19, l20, l21, .val .null, l23, l24, l25, l26, l27] (.null :: S) (H) Q) : W0 rm 246 [l0, l1, l2, l3, l4, l5, l6, l7, l8, l9, l10, l11, l12, l13, l14, l15, l16, l17, l18, l19, l20, l21, .val .null, l23, l24, l25, l26, l27] (S) H Q := W.aload at_246 rfl rfl h
theorem s0_248 {rm : Room} {S : List Value} {H : AHeap} {Q : Option Value → AHeap → Prop} {l0 l1 l2 l3 l4 l5 l6 l7 l8 l9 l10 l11 l12 l13 l14 l15 l16 l17 l18 l19 l20 l21 l22 l23 l24 l25 l26 l27 : Slot} {rm' : Room} {H' : AHeap} {i : Nat} {vs : List Value}  {r : Int32} (hH : H[i]? = some (.inl (0, vs))) (hM : M7 rm' [.ref i] H (Is (some (.int r)) H')) (hr : rok rm rm' 6 S = true) (h : W0 (less rm rm') 251 [l0, l1, l2, l3, l4, l5, l6, l7, l8, l9, l10, l11, l12, l13, l14, l15, l16, l17, l18, l19, l20, l21, l22, l23, l24, l25, l26, l27] (.int r :: S) H' Q) : W0 rm 248 [l0, l1, l2, l3, l4, l5, l6, l7, l8, l9, l10, l11, l12, l13, l14, l15, l16, l17, l18, l19, l20, l21, l22, l23, l24, l25, l26, l27] (.ref i :: S) H Q := W.callV (c := 0) (S := S) (as := []) (rm' := rm') at_248 (List.mem_of_getElem? (i := 34) rfl) (List.mem_of_getElem? (i := 35) rfl) (List.mem_of_getElem? (i := 37) rfl) (Or.inl rfl) kt (List.mem_of_getElem? (i := 36) rfl) (List.mem_of_getElem? (i := 11) rfl) (List.mem_of_getElem? (i := 38) rfl) (by decide) rfl pd6 rfl rfl hH hM hr (fun _ _ q => by obtain ⟨rfl, rfl⟩ := q; exact h)
theorem s0_248q {rm : Room} {S : List Value} {H : AHeap} {Q : Option Value → AHeap → Prop} {l0 l1 l2 l3 l4 l5 l6 l7 l8 l9 l10 l11 l12 l13 l14 l15 l16 l17 l18 l19 l20 l21 l22 l23 l24 l25 l26 l27 : Slot} {rm' : Room} {Q' : Option Value → AHeap → Prop} {i : Nat} {vs : List Value}  (hH : H[i]? = some (.inl (0, vs))) (hM : M7 rm' [.ref i] H Q') (hr : rok rm rm' 6 S = true) (h : ∀ v H', Q' v H' → W0 (less rm rm') 251 [l0, l1, l2, l3, l4, l5, l6, l7, l8, l9, l10, l11, l12, l13, l14, l15, l16, l17, l18, l19, l20, l21, l22, l23, l24, l25, l26, l27] (v.toList ++ S) H' Q) : W0 rm 248 [l0, l1, l2, l3, l4, l5, l6, l7, l8, l9, l10, l11, l12, l13, l14, l15, l16, l17, l18, l19, l20, l21, l22, l23, l24, l25, l26, l27] (.ref i :: S) H Q := W.callV (c := 0) (S := S) (as := []) (rm' := rm') at_248 (List.mem_of_getElem? (i := 34) rfl) (List.mem_of_getElem? (i := 35) rfl) (List.mem_of_getElem? (i := 37) rfl) (Or.inl rfl) kt (List.mem_of_getElem? (i := 36) rfl) (List.mem_of_getElem? (i := 11) rfl) (List.mem_of_getElem? (i := 38) rfl) (by decide) rfl pd6 rfl rfl hH hM hr h
theorem s0_251 {rm : Room} {S : List Value} {H : AHeap} {Q : Option Value → AHeap → Prop} {l0 l1 l2 l3 l4 l5 l6 l7 l8 l9 l10 l11 l12 l13 l14 l15 l16 l17 l18 l19 l20 l21 l22 l23 l24 l25 l26 l27 : Slot} {x : Int32} (ho : one l25 = true) (h : W0 rm 253 [l0, l1, l2, l3, l4, l5, l6, l7, l8, l9, l10, l11, l12, l13, l14, l15, l16, l17, l18, l19, l20, l21, l22, l23, l24, .val (.int x), l26, l27] (S) (H) Q) : W0 rm 251 [l0, l1, l2, l3, l4, l5, l6, l7, l8, l9, l10, l11, l12, l13, l14, l15, l16, l17, l18, l19, l20, l21, l22, l23, l24, l25, l26, l27] (.int x :: S) H Q := W.istore at_251 rfl ho h
theorem s0_251w {rm : Room} {S : List Value} {H : AHeap} {Q : Option Value → AHeap → Prop} {l0 l1 l2 l3 l4 l5 l6 l7 l8 l9 l10 l11 l12 l13 l14 l15 l16 l17 l18 l19 l20 l21 l22 l23 l24 l26 l27 : Slot} {w : Value} {x : Int32} (ho : w.category = 2) (h : W0 rm 253 [l0, l1, l2, l3, l4, l5, l6, l7, l8, l9, l10, l11, l12, l13, l14, l15, l16, l17, l18, l19, l20, l21, l22, l23, l24, .val (.int x), .unset, l27] (S) (H) Q) : W0 rm 251 [l0, l1, l2, l3, l4, l5, l6, l7, l8, l9, l10, l11, l12, l13, l14, l15, l16, l17, l18, l19, l20, l21, l22, l23, l24, .val w, l26, l27] (.int x :: S) H Q := W.istoreW at_251 rfl ho (Nat.le_of_ble_eq_true rfl) h
theorem s0_251s {rm : Room} {S : List Value} {H : AHeap} {Q : Option Value → AHeap → Prop} {l0 l1 l2 l3 l4 l5 l6 l7 l8 l9 l10 l11 l12 l13 l14 l15 l16 l17 l18 l19 l20 l21 l22 l23 l24 l26 l27 : Slot} {x : Int32} (h : W0 rm 253 [l0, l1, l2, l3, l4, l5, l6, l7, l8, l9, l10, l11, l12, l13, l14, l15, l16, l17, l18, l19, l20, l21, l22, l23, .unset, .val (.int x), l26, l27] (S) (H) Q) : W0 rm 251 [l0, l1, l2, l3, l4, l5, l6, l7, l8, l9, l10, l11, l12, l13, l14, l15, l16, l17, l18, l19, l20, l21, l22, l23, l24, .second, l26, l27] (.int x :: S) H Q := W.istoreS at_251 rfl (by decide) h
theorem s0_253 {rm : Room} {S : List Value} {H : AHeap} {Q : Option Value → AHeap → Prop} {l0 l1 l2 l3 l4 l5 l6 l7 l8 l9 l10 l11 l12 l13 l14 l15 l16 l17 l18 l19 l20 l21 l23 l24 l25 l26 l27 : Slot} {i : Nat} (h : W0 rm 255 [l0, l1, l2, l3, l4, l5, l6, l7, l8, l9, l10, l11, l12, l13, l14, l15, l16, l17, l18, l19, l20, l21, .val (.ref i), l23, l24, l25, l26, l27] (.ref i :: S) (H) Q) : W0 rm 253 [l0, l1, l2, l3, l4, l5, l6, l7, l8, l9, l10, l11, l12, l13, l14, l15, l16, l17, l18, l19, l20, l21, .val (.ref i), l23, l24, l25, l26, l27] (S) H Q := W.aload at_253 rfl rfl h
theorem s0_253n {rm : Room} {S : List Value} {H : AHeap} {Q : Option Value → AHeap → Prop} {l0 l1 l2 l3 l4 l5 l6 l7 l8 l9 l10 l11 l12 l13 l14 l15 l16 l17 l18 l19 l20 l21 l23 l24 l25 l26 l27 : Slot}  (h : W0 rm 255 [l0, l1, l2, l3, l4, l5, l6, l7, l8, l9, l10, l11, l12, l13, l14, l15, l16, l17, l18, l19, l20, l21, .val .null, l23, l24, l25, l26, l27] (.null :: S) (H) Q) : W0 rm 253 [l0, l1, l2, l3, l4, l5, l6, l7, l8, l9, l10, l11, l12, l13, l14, l15, l16, l17, l18, l19, l20, l21, .val .null, l23, l24, l25, l26, l27] (S) H Q := W.aload at_253 rfl rfl h
theorem s0_255 {rm : Room} {S : List Value} {H : AHeap} {Q : Option Value → AHeap → Prop} {l0 l1 l2 l3 l4 l5 l6 l7 l8 l9 l10 l11 l12 l13 l14 l15 l16 l17 l18 l19 l20 l21 l22 l23 l24 l25 l26 l27 : Slot} {rm' : Room} {H' : AHeap} {i : Nat} {vs : List Value}  {r : Int32} (hH : H[i]? = some (.inl (0, vs))) (hM : M7 rm' [.ref i] H (Is (some (.int r)) H')) (hr : rok rm rm' 6 S = true) (h : W0 (less rm rm') 258 [l0, l1, l2, l3, l4, l5, l6, l7, l8, l9, l10, l11, l12, l13, l14, l15, l16, l17, l18, l19, l20, l21, l22, l23, l24, l25, l26, l27] (.int r :: S) H' Q) : W0 rm 255 [l0, l1, l2, l3, l4, l5, l6, l7, l8, l9, l10, l11, l12, l13, l14, l15, l16, l17, l18, l19, l20, l21, l22, l23, l24, l25, l26, l27] (.ref i :: S) H Q := W.callV (c := 0) (S := S) (as := []) (rm' := rm') at_255 (List.mem_of_getElem? (i := 34) rfl) (List.mem_of_getElem? (i := 35) rfl) (List.mem_of_getElem? (i := 37) rfl) (Or.inl rfl) kt (List.mem_of_getElem? (i := 36) rfl) (List.mem_of_getElem? (i := 11) rfl) (List.mem_of_getElem? (i := 38) rfl) (by decide) rfl pd6 rfl rfl hH hM hr (fun _ _ q => by obtain ⟨rfl, rfl⟩ := q; exact h)
theorem s0_255q {rm : Room} {S : List Value} {H : AHeap} {Q : Option Value → AHeap → Prop} {l0 l1 l2 l3 l4 l5 l6 l7 l8 l9 l10 l11 l12 l13 l14 l15 l16 l17 l18 l19 l20 l21 l22 l23 l24 l25 l26 l27 : Slot} {rm' : Room} {Q' : Option Value → AHeap → Prop} {i : Nat} {vs : List Value}  (hH : H[i]? = some (.inl (0, vs))) (hM : M7 rm' [.ref i] H Q') (hr : rok rm rm' 6 S = true) (h : ∀ v H', Q' v H' → W0 (less rm rm') 258 [l0, l1, l2, l3, l4, l5, l6, l7, l8, l9, l10, l11, l12, l13, l14, l15, l16, l17, l18, l19, l20, l21, l22, l23, l24, l25, l26, l27] (v.toList ++ S) H' Q) : W0 rm 255 [l0, l1, l2, l3, l4, l5, l6, l7, l8, l9, l10, l11, l12, l13, l14, l15, l16, l17, l18, l19, l20, l21, l22, l23, l24, l25, l26, l27] (.ref i :: S) H Q := W.callV (c := 0) (S := S) (as := []) (rm' := rm') at_255 (List.mem_of_getElem? (i := 34) rfl) (List.mem_of_getElem? (i := 35) rfl) (List.mem_of_getElem? (i := 37) rfl) (Or.inl rfl) kt (List.mem_of_getElem? (i := 36) rfl) (List.mem_of_getElem? (i := 11) rfl) (List.mem_of_getElem? (i := 38) rfl) (by decide) rfl pd6 rfl rfl hH hM hr h
theorem s0_258 {rm : Room} {S : List Value} {H : AHeap} {Q : Option Value → AHeap → Prop} {l0 l1 l2 l3 l4 l5 l6 l7 l8 l9 l10 l11 l12 l13 l14 l15 l16 l17 l18 l19 l20 l21 l22 l23 l24 l25 l26 l27 : Slot} {x : Int32} (ho : one l26 = true) (h : W0 rm 260 [l0, l1, l2, l3, l4, l5, l6, l7, l8, l9, l10, l11, l12, l13, l14, l15, l16, l17, l18, l19, l20, l21, l22, l23, l24, l25, .val (.int x), l27] (S) (H) Q) : W0 rm 258 [l0, l1, l2, l3, l4, l5, l6, l7, l8, l9, l10, l11, l12, l13, l14, l15, l16, l17, l18, l19, l20, l21, l22, l23, l24, l25, l26, l27] (.int x :: S) H Q := W.istore at_258 rfl ho h
theorem s0_258w {rm : Room} {S : List Value} {H : AHeap} {Q : Option Value → AHeap → Prop} {l0 l1 l2 l3 l4 l5 l6 l7 l8 l9 l10 l11 l12 l13 l14 l15 l16 l17 l18 l19 l20 l21 l22 l23 l24 l25 l27 : Slot} {w : Value} {x : Int32} (ho : w.category = 2) (h : W0 rm 260 [l0, l1, l2, l3, l4, l5, l6, l7, l8, l9, l10, l11, l12, l13, l14, l15, l16, l17, l18, l19, l20, l21, l22, l23, l24, l25, .val (.int x), .unset] (S) (H) Q) : W0 rm 258 [l0, l1, l2, l3, l4, l5, l6, l7, l8, l9, l10, l11, l12, l13, l14, l15, l16, l17, l18, l19, l20, l21, l22, l23, l24, l25, .val w, l27] (.int x :: S) H Q := W.istoreW at_258 rfl ho (Nat.le_of_ble_eq_true rfl) h
theorem s0_258s {rm : Room} {S : List Value} {H : AHeap} {Q : Option Value → AHeap → Prop} {l0 l1 l2 l3 l4 l5 l6 l7 l8 l9 l10 l11 l12 l13 l14 l15 l16 l17 l18 l19 l20 l21 l22 l23 l24 l25 l27 : Slot} {x : Int32} (h : W0 rm 260 [l0, l1, l2, l3, l4, l5, l6, l7, l8, l9, l10, l11, l12, l13, l14, l15, l16, l17, l18, l19, l20, l21, l22, l23, l24, .unset, .val (.int x), l27] (S) (H) Q) : W0 rm 258 [l0, l1, l2, l3, l4, l5, l6, l7, l8, l9, l10, l11, l12, l13, l14, l15, l16, l17, l18, l19, l20, l21, l22, l23, l24, l25, .second, l27] (.int x :: S) H Q := W.istoreS at_258 rfl (by decide) h
theorem s0_260 {rm : Room} {S : List Value} {H : AHeap} {Q : Option Value → AHeap → Prop} {l0 l1 l2 l3 l4 l5 l6 l7 l8 l9 l10 l11 l12 l13 l14 l15 l16 l17 l18 l19 l20 l21 l23 l24 l25 l26 l27 : Slot} {i : Nat} (h : W0 rm 262 [l0, l1, l2, l3, l4, l5, l6, l7, l8, l9, l10, l11, l12, l13, l14, l15, l16, l17, l18, l19, l20, l21, .val (.ref i), l23, l24, l25, l26, l27] (.ref i :: S) (H) Q) : W0 rm 260 [l0, l1, l2, l3, l4, l5, l6, l7, l8, l9, l10, l11, l12, l13, l14, l15, l16, l17, l18, l19, l20, l21, .val (.ref i), l23, l24, l25, l26, l27] (S) H Q := W.aload at_260 rfl rfl h
theorem s0_260n {rm : Room} {S : List Value} {H : AHeap} {Q : Option Value → AHeap → Prop} {l0 l1 l2 l3 l4 l5 l6 l7 l8 l9 l10 l11 l12 l13 l14 l15 l16 l17 l18 l19 l20 l21 l23 l24 l25 l26 l27 : Slot}  (h : W0 rm 262 [l0, l1, l2, l3, l4, l5, l6, l7, l8, l9, l10, l11, l12, l13, l14, l15, l16, l17, l18, l19, l20, l21, .val .null, l23, l24, l25, l26, l27] (.null :: S) (H) Q) : W0 rm 260 [l0, l1, l2, l3, l4, l5, l6, l7, l8, l9, l10, l11, l12, l13, l14, l15, l16, l17, l18, l19, l20, l21, .val .null, l23, l24, l25, l26, l27] (S) H Q := W.aload at_260 rfl rfl h
theorem s0_262 {rm : Room} {S : List Value} {H : AHeap} {Q : Option Value → AHeap → Prop} {l0 l1 l2 l3 l4 l5 l6 l7 l8 l9 l10 l11 l12 l13 l14 l15 l16 l17 l18 l19 l20 l21 l22 l23 l24 l25 l26 l27 : Slot} {rm' : Room} {H' : AHeap} {i : Nat} {vs : List Value}  {r : Int32} (hH : H[i]? = some (.inl (0, vs))) (hM : M7 rm' [.ref i] H (Is (some (.int r)) H')) (hr : rok rm rm' 6 S = true) (h : W0 (less rm rm') 265 [l0, l1, l2, l3, l4, l5, l6, l7, l8, l9, l10, l11, l12, l13, l14, l15, l16, l17, l18, l19, l20, l21, l22, l23, l24, l25, l26, l27] (.int r :: S) H' Q) : W0 rm 262 [l0, l1, l2, l3, l4, l5, l6, l7, l8, l9, l10, l11, l12, l13, l14, l15, l16, l17, l18, l19, l20, l21, l22, l23, l24, l25, l26, l27] (.ref i :: S) H Q := W.callV (c := 0) (S := S) (as := []) (rm' := rm') at_262 (List.mem_of_getElem? (i := 34) rfl) (List.mem_of_getElem? (i := 35) rfl) (List.mem_of_getElem? (i := 37) rfl) (Or.inl rfl) kt (List.mem_of_getElem? (i := 36) rfl) (List.mem_of_getElem? (i := 11) rfl) (List.mem_of_getElem? (i := 38) rfl) (by decide) rfl pd6 rfl rfl hH hM hr (fun _ _ q => by obtain ⟨rfl, rfl⟩ := q; exact h)
theorem s0_262q {rm : Room} {S : List Value} {H : AHeap} {Q : Option Value → AHeap → Prop} {l0 l1 l2 l3 l4 l5 l6 l7 l8 l9 l10 l11 l12 l13 l14 l15 l16 l17 l18 l19 l20 l21 l22 l23 l24 l25 l26 l27 : Slot} {rm' : Room} {Q' : Option Value → AHeap → Prop} {i : Nat} {vs : List Value}  (hH : H[i]? = some (.inl (0, vs))) (hM : M7 rm' [.ref i] H Q') (hr : rok rm rm' 6 S = true) (h : ∀ v H', Q' v H' → W0 (less rm rm') 265 [l0, l1, l2, l3, l4, l5, l6, l7, l8, l9, l10, l11, l12, l13, l14, l15, l16, l17, l18, l19, l20, l21, l22, l23, l24, l25, l26, l27] (v.toList ++ S) H' Q) : W0 rm 262 [l0, l1, l2, l3, l4, l5, l6, l7, l8, l9, l10, l11, l12, l13, l14, l15, l16, l17, l18, l19, l20, l21, l22, l23, l24, l25, l26, l27] (.ref i :: S) H Q := W.callV (c := 0) (S := S) (as := []) (rm' := rm') at_262 (List.mem_of_getElem? (i := 34) rfl) (List.mem_of_getElem? (i := 35) rfl) (List.mem_of_getElem? (i := 37) rfl) (Or.inl rfl) kt (List.mem_of_getElem? (i := 36) rfl) (List.mem_of_getElem? (i := 11) rfl) (List.mem_of_getElem? (i := 38) rfl) (by decide) rfl pd6 rfl rfl hH hM hr h
theorem s0_265 {rm : Room} {S : List Value} {H : AHeap} {Q : Option Value → AHeap → Prop} {l0 l1 l2 l3 l4 l5 l6 l7 l8 l9 l10 l11 l12 l13 l14 l15 l16 l17 l18 l19 l20 l21 l22 l23 l24 l25 l26 l27 : Slot} {x : Int32} (ho : one l27 = true) (h : W0 rm 267 [l0, l1, l2, l3, l4, l5, l6, l7, l8, l9, l10, l11, l12, l13, l14, l15, l16, l17, l18, l19, l20, l21, l22, l23, l24, l25, l26, .val (.int x)] (S) (H) Q) : W0 rm 265 [l0, l1, l2, l3, l4, l5, l6, l7, l8, l9, l10, l11, l12, l13, l14, l15, l16, l17, l18, l19, l20, l21, l22, l23, l24, l25, l26, l27] (.int x :: S) H Q := W.istore at_265 rfl ho h
theorem s0_265s {rm : Room} {S : List Value} {H : AHeap} {Q : Option Value → AHeap → Prop} {l0 l1 l2 l3 l4 l5 l6 l7 l8 l9 l10 l11 l12 l13 l14 l15 l16 l17 l18 l19 l20 l21 l22 l23 l24 l25 l26 : Slot} {x : Int32} (h : W0 rm 267 [l0, l1, l2, l3, l4, l5, l6, l7, l8, l9, l10, l11, l12, l13, l14, l15, l16, l17, l18, l19, l20, l21, l22, l23, l24, l25, .unset, .val (.int x)] (S) (H) Q) : W0 rm 265 [l0, l1, l2, l3, l4, l5, l6, l7, l8, l9, l10, l11, l12, l13, l14, l15, l16, l17, l18, l19, l20, l21, l22, l23, l24, l25, l26, .second] (.int x :: S) H Q := W.istoreS at_265 rfl (by decide) h
theorem s0_267 {rm : Room} {S : List Value} {H : AHeap} {Q : Option Value → AHeap → Prop} {l0 l1 l2 l3 l4 l5 l6 l7 l8 l9 l10 l11 l12 l13 l14 l15 l16 l17 l18 l19 l20 l21 l22 l24 l25 l26 l27 : Slot} {x : Int32} (h : W0 rm 269 [l0, l1, l2, l3, l4, l5, l6, l7, l8, l9, l10, l11, l12, l13, l14, l15, l16, l17, l18, l19, l20, l21, l22, .val (.int x), l24, l25, l26, l27] (.int x :: S) (H) Q) : W0 rm 267 [l0, l1, l2, l3, l4, l5, l6, l7, l8, l9, l10, l11, l12, l13, l14, l15, l16, l17, l18, l19, l20, l21, l22, .val (.int x), l24, l25, l26, l27] (S) H Q := W.iload at_267 rfl h
theorem s0_269 {rm : Room} {S : List Value} {H : AHeap} {Q : Option Value → AHeap → Prop} {l0 l1 l2 l3 l4 l5 l6 l7 l8 l9 l10 l11 l12 l13 l14 l15 l16 l17 l18 l19 l20 l22 l23 l24 l25 l26 l27 : Slot} {i : Nat} (h : W0 rm 271 [l0, l1, l2, l3, l4, l5, l6, l7, l8, l9, l10, l11, l12, l13, l14, l15, l16, l17, l18, l19, l20, .val (.ref i), l22, l23, l24, l25, l26, l27] (.ref i :: S) (H) Q) : W0 rm 269 [l0, l1, l2, l3, l4, l5, l6, l7, l8, l9, l10, l11, l12, l13, l14, l15, l16, l17, l18, l19, l20, .val (.ref i), l22, l23, l24, l25, l26, l27] (S) H Q := W.aload at_269 rfl rfl h
theorem s0_269n {rm : Room} {S : List Value} {H : AHeap} {Q : Option Value → AHeap → Prop} {l0 l1 l2 l3 l4 l5 l6 l7 l8 l9 l10 l11 l12 l13 l14 l15 l16 l17 l18 l19 l20 l22 l23 l24 l25 l26 l27 : Slot}  (h : W0 rm 271 [l0, l1, l2, l3, l4, l5, l6, l7, l8, l9, l10, l11, l12, l13, l14, l15, l16, l17, l18, l19, l20, .val .null, l22, l23, l24, l25, l26, l27] (.null :: S) (H) Q) : W0 rm 269 [l0, l1, l2, l3, l4, l5, l6, l7, l8, l9, l10, l11, l12, l13, l14, l15, l16, l17, l18, l19, l20, .val .null, l22, l23, l24, l25, l26, l27] (S) H Q := W.aload at_269 rfl rfl h
theorem s0_271 {rm : Room} {S : List Value} {H : AHeap} {Q : Option Value → AHeap → Prop} {l0 l1 l2 l3 l4 l5 l6 l7 l8 l9 l10 l11 l12 l13 l14 l15 l16 l17 l18 l19 l20 l21 l22 l23 l24 l25 l26 l27 : Slot}  (h : W0 rm 272 [l0, l1, l2, l3, l4, l5, l6, l7, l8, l9, l10, l11, l12, l13, l14, l15, l16, l17, l18, l19, l20, l21, l22, l23, l24, l25, l26, l27] (.int 0 :: S) (H) Q) : W0 rm 271 [l0, l1, l2, l3, l4, l5, l6, l7, l8, l9, l10, l11, l12, l13, l14, l15, l16, l17, l18, l19, l20, l21, l22, l23, l24, l25, l26, l27] (S) H Q := W.iconst' at_271 (by decide) h
theorem s0_272 {rm : Room} {S : List Value} {H : AHeap} {Q : Option Value → AHeap → Prop} {l0 l1 l2 l3 l4 l5 l6 l7 l8 l9 l10 l11 l12 l13 l14 l15 l16 l17 l18 l19 l20 l21 l22 l23 l24 l25 l26 l27 : Slot} {i : Nat} {j : Int32} {vs : List Value} {v : Value} (N : Nat) (hH : H[i]? = some (.inr (.long, vs))) (hj : ix j N) (hv : vs[N]? = some v) (h : W0 rm 273 [l0, l1, l2, l3, l4, l5, l6, l7, l8, l9, l10, l11, l12, l13, l14, l15, l16, l17, l18, l19, l20, l21, l22, l23, l24, l25, l26, l27] (v :: S) (H) Q) : W0 rm 272 [l0, l1, l2, l3, l4, l5, l6, l7, l8, l9, l10, l11, l12, l13, l14, l15, l16, l17, l18, l19, l20, l21, l22, l23, l24, l25, l26, l27] (.int j :: .ref i :: S) H Q := W.xaload (Or.inr (Or.inl ⟨rfl, rfl⟩)) at_272 hH hj hv h
theorem s0_273 {rm : Room} {S : List Value} {H : AHeap} {Q : Option Value → AHeap → Prop} {l0 l1 l2 l3 l4 l5 l6 l7 l8 l9 l10 l11 l12 l13 l14 l15 l16 l17 l18 l19 l20 l21 l22 l23 l24 l25 l26 l27 : Slot} {rm' : Room} {H' : AHeap} {a0 : Int64} {r : Int32} (hM : M5 rm' [.long a0] H (Is (some (.int r)) H')) (hr : rok rm rm' 2 S = true) (h : W0 (less rm rm') 276 [l0, l1, l2, l3, l4, l5, l6, l7, l8, l9, l10, l11, l12, l13, l14, l15, l16, l17, l18, l19, l20, l21, l22, l23, l24, l25, l26, l27] (.int r :: S) H' Q) : W0 rm 273 [l0, l1, l2, l3, l4, l5, l6, l7, l8, l9, l10, l11, l12, l13, l14, l15, l16, l17, l18, l19, l20, l21, l22, l23, l24, l25, l26, l27] (.long a0 :: S) H Q := W.callS (S := S) (as := [.long a0]) (rm' := rm') at_273 (List.mem_of_getElem? (i := 23) rfl) (List.mem_of_getElem? (i := 24) rfl) (List.mem_of_getElem? (i := 2) rfl) (List.mem_of_getElem? (i := 25) rfl) (by decide) pd4 rfl rfl hM hr (fun _ _ q => by obtain ⟨rfl, rfl⟩ := q; exact h)
theorem s0_273q {rm : Room} {S : List Value} {H : AHeap} {Q : Option Value → AHeap → Prop} {l0 l1 l2 l3 l4 l5 l6 l7 l8 l9 l10 l11 l12 l13 l14 l15 l16 l17 l18 l19 l20 l21 l22 l23 l24 l25 l26 l27 : Slot} {rm' : Room} {Q' : Option Value → AHeap → Prop} {a0 : Value} (hM : M5 rm' [a0] H Q') (hr : rok rm rm' 2 S = true) (h : ∀ v H', Q' v H' → W0 (less rm rm') 276 [l0, l1, l2, l3, l4, l5, l6, l7, l8, l9, l10, l11, l12, l13, l14, l15, l16, l17, l18, l19, l20, l21, l22, l23, l24, l25, l26, l27] (v.toList ++ S) H' Q) : W0 rm 273 [l0, l1, l2, l3, l4, l5, l6, l7, l8, l9, l10, l11, l12, l13, l14, l15, l16, l17, l18, l19, l20, l21, l22, l23, l24, l25, l26, l27] (a0 :: S) H Q := W.callS (S := S) (as := [a0]) (rm' := rm') at_273 (List.mem_of_getElem? (i := 23) rfl) (List.mem_of_getElem? (i := 24) rfl) (List.mem_of_getElem? (i := 2) rfl) (List.mem_of_getElem? (i := 25) rfl) (by decide) pd4 rfl rfl hM hr h
theorem s0_276 {rm : Room} {S : List Value} {H : AHeap} {Q : Option Value → AHeap → Prop} {l0 l1 l2 l3 l4 l5 l6 l7 l8 l9 l10 l11 l12 l13 l14 l15 l16 l17 l18 l19 l20 l21 l22 l23 l24 l25 l26 l27 : Slot} {x y : Int32} (h1 : ¬ x = y → W0 rm 339 [l0, l1, l2, l3, l4, l5, l6, l7, l8, l9, l10, l11, l12, l13, l14, l15, l16, l17, l18, l19, l20, l21, l22, l23, l24, l25, l26, l27] S H Q) (h2 : x = y → W0 rm 279 [l0, l1, l2, l3, l4, l5, l6, l7, l8, l9, l10, l11, l12, l13, l14, l15, l16, l17, l18, l19, l20, l21, l22, l23, l24, l25, l26, l27] S H Q) : W0 rm 276 [l0, l1, l2, l3, l4, l5, l6, l7, l8, l9, l10, l11, l12, l13, l14, l15, l16, l17, l18, l19, l20, l21, l22, l23, l24, l25, l26, l27] (.int y :: .int x :: S) H Q := W.icmp at_276 (by decide) (by decide) h1 h2
theorem s0_279 {rm : Room} {S : List Value} {H : AHeap} {Q : Option Value → AHeap → Prop} {l0 l1 l2 l3 l4 l5 l6 l7 l8 l9 l10 l11 l12 l13 l14 l15 l16 l17 l18 l19 l20 l21 l22 l23 l25 l26 l27 : Slot} {x : Int32} (h : W0 rm 281 [l0, l1, l2, l3, l4, l5, l6, l7, l8, l9, l10, l11, l12, l13, l14, l15, l16, l17, l18, l19, l20, l21, l22, l23, .val (.int x), l25, l26, l27] (.int x :: S) (H) Q) : W0 rm 279 [l0, l1, l2, l3, l4, l5, l6, l7, l8, l9, l10, l11, l12, l13, l14, l15, l16, l17, l18, l19, l20, l21, l22, l23, .val (.int x), l25, l26, l27] (S) H Q := W.iload at_279 rfl h
theorem s0_281 {rm : Room} {S : List Value} {H : AHeap} {Q : Option Value → AHeap → Prop} {l0 l1 l2 l3 l4 l5 l6 l7 l8 l9 l10 l11 l12 l13 l14 l15 l16 l17 l18 l19 l20 l22 l23 l24 l25 l26 l27 : Slot} {i : Nat} (h : W0 rm 283 [l0, l1, l2, l3, l4, l5, l6, l7, l8, l9, l10, l11, l12, l13, l14, l15, l16, l17, l18, l19, l20, .val (.ref i), l22, l23, l24, l25, l26, l27] (.ref i :: S) (H) Q) : W0 rm 281 [l0, l1, l2, l3, l4, l5, l6, l7, l8, l9, l10, l11, l12, l13, l14, l15, l16, l17, l18, l19, l20, .val (.ref i), l22, l23, l24, l25, l26, l27] (S) H Q := W.aload at_281 rfl rfl h
theorem s0_281n {rm : Room} {S : List Value} {H : AHeap} {Q : Option Value → AHeap → Prop} {l0 l1 l2 l3 l4 l5 l6 l7 l8 l9 l10 l11 l12 l13 l14 l15 l16 l17 l18 l19 l20 l22 l23 l24 l25 l26 l27 : Slot}  (h : W0 rm 283 [l0, l1, l2, l3, l4, l5, l6, l7, l8, l9, l10, l11, l12, l13, l14, l15, l16, l17, l18, l19, l20, .val .null, l22, l23, l24, l25, l26, l27] (.null :: S) (H) Q) : W0 rm 281 [l0, l1, l2, l3, l4, l5, l6, l7, l8, l9, l10, l11, l12, l13, l14, l15, l16, l17, l18, l19, l20, .val .null, l22, l23, l24, l25, l26, l27] (S) H Q := W.aload at_281 rfl rfl h
theorem s0_283 {rm : Room} {S : List Value} {H : AHeap} {Q : Option Value → AHeap → Prop} {l0 l1 l2 l3 l4 l5 l6 l7 l8 l9 l10 l11 l12 l13 l14 l15 l16 l17 l18 l19 l20 l21 l22 l23 l24 l25 l26 l27 : Slot}  (h : W0 rm 284 [l0, l1, l2, l3, l4, l5, l6, l7, l8, l9, l10, l11, l12, l13, l14, l15, l16, l17, l18, l19, l20, l21, l22, l23, l24, l25, l26, l27] (.int 1 :: S) (H) Q) : W0 rm 283 [l0, l1, l2, l3, l4, l5, l6, l7, l8, l9, l10, l11, l12, l13, l14, l15, l16, l17, l18, l19, l20, l21, l22, l23, l24, l25, l26, l27] (S) H Q := W.iconst' at_283 (by decide) h
theorem s0_284 {rm : Room} {S : List Value} {H : AHeap} {Q : Option Value → AHeap → Prop} {l0 l1 l2 l3 l4 l5 l6 l7 l8 l9 l10 l11 l12 l13 l14 l15 l16 l17 l18 l19 l20 l21 l22 l23 l24 l25 l26 l27 : Slot} {i : Nat} {j : Int32} {vs : List Value} {v : Value} (N : Nat) (hH : H[i]? = some (.inr (.long, vs))) (hj : ix j N) (hv : vs[N]? = some v) (h : W0 rm 285 [l0, l1, l2, l3, l4, l5, l6, l7, l8, l9, l10, l11, l12, l13, l14, l15, l16, l17, l18, l19, l20, l21, l22, l23, l24, l25, l26, l27] (v :: S) (H) Q) : W0 rm 284 [l0, l1, l2, l3, l4, l5, l6, l7, l8, l9, l10, l11, l12, l13, l14, l15, l16, l17, l18, l19, l20, l21, l22, l23, l24, l25, l26, l27] (.int j :: .ref i :: S) H Q := W.xaload (Or.inr (Or.inl ⟨rfl, rfl⟩)) at_284 hH hj hv h
theorem s0_285 {rm : Room} {S : List Value} {H : AHeap} {Q : Option Value → AHeap → Prop} {l0 l1 l2 l3 l4 l5 l6 l7 l8 l9 l10 l11 l12 l13 l14 l15 l16 l17 l18 l19 l20 l21 l22 l23 l24 l25 l26 l27 : Slot} {rm' : Room} {H' : AHeap} {a0 : Int64} {r : Int32} (hM : M5 rm' [.long a0] H (Is (some (.int r)) H')) (hr : rok rm rm' 2 S = true) (h : W0 (less rm rm') 288 [l0, l1, l2, l3, l4, l5, l6, l7, l8, l9, l10, l11, l12, l13, l14, l15, l16, l17, l18, l19, l20, l21, l22, l23, l24, l25, l26, l27] (.int r :: S) H' Q) : W0 rm 285 [l0, l1, l2, l3, l4, l5, l6, l7, l8, l9, l10, l11, l12, l13, l14, l15, l16, l17, l18, l19, l20, l21, l22, l23, l24, l25, l26, l27] (.long a0 :: S) H Q := W.callS (S := S) (as := [.long a0]) (rm' := rm') at_285 (List.mem_of_getElem? (i := 23) rfl) (List.mem_of_getElem? (i := 24) rfl) (List.mem_of_getElem? (i := 2) rfl) (List.mem_of_getElem? (i := 25) rfl) (by decide) pd4 rfl rfl hM hr (fun _ _ q => by obtain ⟨rfl, rfl⟩ := q; exact h)
theorem s0_285q {rm : Room} {S : List Value} {H : AHeap} {Q : Option Value → AHeap → Prop} {l0 l1 l2 l3 l4 l5 l6 l7 l8 l9 l10 l11 l12 l13 l14 l15 l16 l17 l18 l19 l20 l21 l22 l23 l24 l25 l26 l27 : Slot} {rm' : Room} {Q' : Option Value → AHeap → Prop} {a0 : Value} (hM : M5 rm' [a0] H Q') (hr : rok rm rm' 2 S = true) (h : ∀ v H', Q' v H' → W0 (less rm rm') 288 [l0, l1, l2, l3, l4, l5, l6, l7, l8, l9, l10, l11, l12, l13, l14, l15, l16, l17, l18, l19, l20, l21, l22, l23, l24, l25, l26, l27] (v.toList ++ S) H' Q) : W0 rm 285 [l0, l1, l2, l3, l4, l5, l6, l7, l8, l9, l10, l11, l12, l13, l14, l15, l16, l17, l18, l19, l20, l21, l22, l23, l24, l25, l26, l27] (a0 :: S) H Q := W.callS (S := S) (as := [a0]) (rm' := rm') at_285 (List.mem_of_getElem? (i := 23) rfl) (List.mem_of_getElem? (i := 24) rfl) (List.mem_of_getElem? (i := 2) rfl) (List.mem_of_getElem? (i := 25) rfl) (by decide) pd4 rfl rfl hM hr h
theorem s0_288 {rm : Room} {S : List Value} {H : AHeap} {Q : Option Value → AHeap → Prop} {l0 l1 l2 l3 l4 l5 l6 l7 l8 l9 l10 l11 l12 l13 l14 l15 l16 l17 l18 l19 l20 l21 l22 l23 l24 l25 l26 l27 : Slot} {x y : Int32} (h1 : ¬ x = y → W0 rm 339 [l0, l1, l2, l3, l4, l5, l6, l7, l8, l9, l10, l11, l12, l13, l14, l15, l16, l17, l18, l19, l20, l21, l22, l23, l24, l25, l26, l27] S H Q) (h2 : x = y → W0 rm 291 [l0, l1, l2, l3, l4, l5, l6, l7, l8, l9, l10, l11, l12, l13, l14, l15, l16, l17, l18, l19, l20, l21, l22, l23, l24, l25, l26, l27] S H Q) : W0 rm 288 [l0, l1, l2, l3, l4, l5, l6, l7, l8, l9, l10, l11, l12, l13, l14, l15, l16, l17, l18, l19, l20, l21, l22, l23, l24, l25, l26, l27] (.int y :: .int x :: S) H Q := W.icmp at_288 (by decide) (by decide) h1 h2
theorem s0_291 {rm : Room} {S : List Value} {H : AHeap} {Q : Option Value → AHeap → Prop} {l0 l1 l2 l3 l4 l5 l6 l7 l8 l9 l10 l11 l12 l13 l14 l15 l16 l17 l18 l19 l20 l21 l22 l23 l24 l26 l27 : Slot} {x : Int32} (h : W0 rm 293 [l0, l1, l2, l3, l4, l5, l6, l7, l8, l9, l10, l11, l12, l13, l14, l15, l16, l17, l18, l19, l20, l21, l22, l23, l24, .val (.int x), l26, l27] (.int x :: S) (H) Q) : W0 rm 291 [l0, l1, l2, l3, l4, l5, l6, l7, l8, l9, l10, l11, l12, l13, l14, l15, l16, l17, l18, l19, l20, l21, l22, l23, l24, .val (.int x), l26, l27] (S) H Q := W.iload at_291 rfl h
theorem s0_293 {rm : Room} {S : List Value} {H : AHeap} {Q : Option Value → AHeap → Prop} {l0 l1 l2 l3 l4 l5 l6 l7 l8 l9 l10 l11 l12 l13 l14 l15 l16 l17 l18 l19 l20 l22 l23 l24 l25 l26 l27 : Slot} {i : Nat} (h : W0 rm 295 [l0, l1, l2, l3, l4, l5, l6, l7, l8, l9, l10, l11, l12, l13, l14, l15, l16, l17, l18, l19, l20, .val (.ref i), l22, l23, l24, l25, l26, l27] (.ref i :: S) (H) Q) : W0 rm 293 [l0, l1, l2, l3, l4, l5, l6, l7, l8, l9, l10, l11, l12, l13, l14, l15, l16, l17, l18, l19, l20, .val (.ref i), l22, l23, l24, l25, l26, l27] (S) H Q := W.aload at_293 rfl rfl h
theorem s0_293n {rm : Room} {S : List Value} {H : AHeap} {Q : Option Value → AHeap → Prop} {l0 l1 l2 l3 l4 l5 l6 l7 l8 l9 l10 l11 l12 l13 l14 l15 l16 l17 l18 l19 l20 l22 l23 l24 l25 l26 l27 : Slot}  (h : W0 rm 295 [l0, l1, l2, l3, l4, l5, l6, l7, l8, l9, l10, l11, l12, l13, l14, l15, l16, l17, l18, l19, l20, .val .null, l22, l23, l24, l25, l26, l27] (.null :: S) (H) Q) : W0 rm 293 [l0, l1, l2, l3, l4, l5, l6, l7, l8, l9, l10, l11, l12, l13, l14, l15, l16, l17, l18, l19, l20, .val .null, l22, l23, l24, l25, l26, l27] (S) H Q := W.aload at_293 rfl rfl h
theorem s0_295 {rm : Room} {S : List Value} {H : AHeap} {Q : Option Value → AHeap → Prop} {l0 l1 l2 l3 l4 l5 l6 l7 l8 l9 l10 l11 l12 l13 l14 l15 l16 l17 l18 l19 l20 l21 l22 l23 l24 l25 l26 l27 : Slot}  (h : W0 rm 296 [l0, l1, l2, l3, l4, l5, l6, l7, l8, l9, l10, l11, l12, l13, l14, l15, l16, l17, l18, l19, l20, l21, l22, l23, l24, l25, l26, l27] (.int 2 :: S) (H) Q) : W0 rm 295 [l0, l1, l2, l3, l4, l5, l6, l7, l8, l9, l10, l11, l12, l13, l14, l15, l16, l17, l18, l19, l20, l21, l22, l23, l24, l25, l26, l27] (S) H Q := W.iconst' at_295 (by decide) h
theorem s0_296 {rm : Room} {S : List Value} {H : AHeap} {Q : Option Value → AHeap → Prop} {l0 l1 l2 l3 l4 l5 l6 l7 l8 l9 l10 l11 l12 l13 l14 l15 l16 l17 l18 l19 l20 l21 l22 l23 l24 l25 l26 l27 : Slot} {i : Nat} {j : Int32} {vs : List Value} {v : Value} (N : Nat) (hH : H[i]? = some (.inr (.long, vs))) (hj : ix j N) (hv : vs[N]? = some v) (h : W0 rm 297 [l0, l1, l2, l3, l4, l5, l6, l7, l8, l9, l10, l11, l12, l13, l14, l15, l16, l17, l18, l19, l20, l21, l22, l23, l24, l25, l26, l27] (v :: S) (H) Q) : W0 rm 296 [l0, l1, l2, l3, l4, l5, l6, l7, l8, l9, l10, l11, l12, l13, l14, l15, l16, l17, l18, l19, l20, l21, l22, l23, l24, l25, l26, l27] (.int j :: .ref i :: S) H Q := W.xaload (Or.inr (Or.inl ⟨rfl, rfl⟩)) at_296 hH hj hv h
theorem s0_297 {rm : Room} {S : List Value} {H : AHeap} {Q : Option Value → AHeap → Prop} {l0 l1 l2 l3 l4 l5 l6 l7 l8 l9 l10 l11 l12 l13 l14 l15 l16 l17 l18 l19 l20 l21 l22 l23 l24 l25 l26 l27 : Slot} {rm' : Room} {H' : AHeap} {a0 : Int64} {r : Int32} (hM : M5 rm' [.long a0] H (Is (some (.int r)) H')) (hr : rok rm rm' 2 S = true) (h : W0 (less rm rm') 300 [l0, l1, l2, l3, l4, l5, l6, l7, l8, l9, l10, l11, l12, l13, l14, l15, l16, l17, l18, l19, l20, l21, l22, l23, l24, l25, l26, l27] (.int r :: S) H' Q) : W0 rm 297 [l0, l1, l2, l3, l4, l5, l6, l7, l8, l9, l10, l11, l12, l13, l14, l15, l16, l17, l18, l19, l20, l21, l22, l23, l24, l25, l26, l27] (.long a0 :: S) H Q := W.callS (S := S) (as := [.long a0]) (rm' := rm') at_297 (List.mem_of_getElem? (i := 23) rfl) (List.mem_of_getElem? (i := 24) rfl) (List.mem_of_getElem? (i := 2) rfl) (List.mem_of_getElem? (i := 25) rfl) (by decide) pd4 rfl rfl hM hr (fun _ _ q => by obtain ⟨rfl, rfl⟩ := q; exact h)
theorem s0_297q {rm : Room} {S : List Value} {H : AHeap} {Q : Option Value → AHeap → Prop} {l0 l1 l2 l3 l4 l5 l6 l7 l8 l9 l10 l11 l12 l13 l14 l15 l16 l17 l18 l19 l20 l21 l22 l23 l24 l25 l26 l27 : Slot} {rm' : Room} {Q' : Option Value → AHeap → Prop} {a0 : Value} (hM : M5 rm' [a0] H Q') (hr : rok rm rm' 2 S = true) (h : ∀ v H', Q' v H' → W0 (less rm rm') 300 [l0, l1, l2, l3, l4, l5, l6, l7, l8, l9, l10, l11, l12, l13, l14, l15, l16, l17, l18, l19, l20, l21, l22, l23, l24, l25, l26, l27] (v.toList ++ S) H' Q) : W0 rm 297 [l0, l1, l2, l3, l4, l5, l6, l7, l8, l9, l10, l11, l12, l13, l14, l15, l16, l17, l18, l19, l20, l21, l22, l23, l24, l25, l26, l27] (a0 :: S) H Q := W.callS (S := S) (as := [a0]) (rm' := rm') at_297 (List.mem_of_getElem? (i := 23) rfl) (List.mem_of_getElem? (i := 24) rfl) (List.mem_of_getElem? (i := 2) rfl) (List.mem_of_getElem? (i := 25) rfl) (by decide) pd4 rfl rfl hM hr h
theorem s0_300 {rm : Room} {S : List Value} {H : AHeap} {Q : Option Value → AHeap → Prop} {l0 l1 l2 l3 l4 l5 l6 l7 l8 l9 l10 l11 l12 l13 l14 l15 l16 l17 l18 l19 l20 l21 l22 l23 l24 l25 l26 l27 : Slot} {x y : Int32} (h1 : ¬ x = y → W0 rm 339 [l0, l1, l2, l3, l4, l5, l6, l7, l8, l9, l10, l11, l12, l13, l14, l15, l16, l17, l18, l19, l20, l21, l22, l23, l24, l25, l26, l27] S H Q) (h2 : x = y → W0 rm 303 [l0, l1, l2, l3, l4, l5, l6, l7, l8, l9, l10, l11, l12, l13, l14, l15, l16, l17, l18, l19, l20, l21, l22, l23, l24, l25, l26, l27] S H Q) : W0 rm 300 [l0, l1, l2, l3, l4, l5, l6, l7, l8, l9, l10, l11, l12, l13, l14, l15, l16, l17, l18, l19, l20, l21, l22, l23, l24, l25, l26, l27] (.int y :: .int x :: S) H Q := W.icmp at_300 (by decide) (by decide) h1 h2
theorem s0_303 {rm : Room} {S : List Value} {H : AHeap} {Q : Option Value → AHeap → Prop} {l0 l1 l2 l3 l4 l5 l6 l7 l8 l9 l10 l11 l12 l13 l14 l15 l16 l17 l18 l19 l20 l21 l22 l23 l24 l25 l27 : Slot} {x : Int32} (h : W0 rm 305 [l0, l1, l2, l3, l4, l5, l6, l7, l8, l9, l10, l11, l12, l13, l14, l15, l16, l17, l18, l19, l20, l21, l22, l23, l24, l25, .val (.int x), l27] (.int x :: S) (H) Q) : W0 rm 303 [l0, l1, l2, l3, l4, l5, l6, l7, l8, l9, l10, l11, l12, l13, l14, l15, l16, l17, l18, l19, l20, l21, l22, l23, l24, l25, .val (.int x), l27] (S) H Q := W.iload at_303 rfl h
theorem s0_305 {rm : Room} {S : List Value} {H : AHeap} {Q : Option Value → AHeap → Prop} {l0 l1 l2 l3 l4 l5 l6 l7 l8 l9 l10 l11 l12 l13 l14 l15 l16 l17 l18 l19 l20 l22 l23 l24 l25 l26 l27 : Slot} {i : Nat} (h : W0 rm 307 [l0, l1, l2, l3, l4, l5, l6, l7, l8, l9, l10, l11, l12, l13, l14, l15, l16, l17, l18, l19, l20, .val (.ref i), l22, l23, l24, l25, l26, l27] (.ref i :: S) (H) Q) : W0 rm 305 [l0, l1, l2, l3, l4, l5, l6, l7, l8, l9, l10, l11, l12, l13, l14, l15, l16, l17, l18, l19, l20, .val (.ref i), l22, l23, l24, l25, l26, l27] (S) H Q := W.aload at_305 rfl rfl h
theorem s0_305n {rm : Room} {S : List Value} {H : AHeap} {Q : Option Value → AHeap → Prop} {l0 l1 l2 l3 l4 l5 l6 l7 l8 l9 l10 l11 l12 l13 l14 l15 l16 l17 l18 l19 l20 l22 l23 l24 l25 l26 l27 : Slot}  (h : W0 rm 307 [l0, l1, l2, l3, l4, l5, l6, l7, l8, l9, l10, l11, l12, l13, l14, l15, l16, l17, l18, l19, l20, .val .null, l22, l23, l24, l25, l26, l27] (.null :: S) (H) Q) : W0 rm 305 [l0, l1, l2, l3, l4, l5, l6, l7, l8, l9, l10, l11, l12, l13, l14, l15, l16, l17, l18, l19, l20, .val .null, l22, l23, l24, l25, l26, l27] (S) H Q := W.aload at_305 rfl rfl h
theorem s0_307 {rm : Room} {S : List Value} {H : AHeap} {Q : Option Value → AHeap → Prop} {l0 l1 l2 l3 l4 l5 l6 l7 l8 l9 l10 l11 l12 l13 l14 l15 l16 l17 l18 l19 l20 l21 l22 l23 l24 l25 l26 l27 : Slot}  (h : W0 rm 308 [l0, l1, l2, l3, l4, l5, l6, l7, l8, l9, l10, l11, l12, l13, l14, l15, l16, l17, l18, l19, l20, l21, l22, l23, l24, l25, l26, l27] (.int 3 :: S) (H) Q) : W0 rm 307 [l0, l1, l2, l3, l4, l5, l6, l7, l8, l9, l10, l11, l12, l13, l14, l15, l16, l17, l18, l19, l20, l21, l22, l23, l24, l25, l26, l27] (S) H Q := W.iconst' at_307 (by decide) h
theorem s0_308 {rm : Room} {S : List Value} {H : AHeap} {Q : Option Value → AHeap → Prop} {l0 l1 l2 l3 l4 l5 l6 l7 l8 l9 l10 l11 l12 l13 l14 l15 l16 l17 l18 l19 l20 l21 l22 l23 l24 l25 l26 l27 : Slot} {i : Nat} {j : Int32} {vs : List Value} {v : Value} (N : Nat) (hH : H[i]? = some (.inr (.long, vs))) (hj : ix j N) (hv : vs[N]? = some v) (h : W0 rm 309 [l0, l1, l2, l3, l4, l5, l6, l7, l8, l9, l10, l11, l12, l13, l14, l15, l16, l17, l18, l19, l20, l21, l22, l23, l24, l25, l26, l27] (v :: S) (H) Q) : W0 rm 308 [l0, l1, l2, l3, l4, l5, l6, l7, l8, l9, l10, l11, l12, l13, l14, l15, l16, l17, l18, l19, l20, l21, l22, l23, l24, l25, l26, l27] (.int j :: .ref i :: S) H Q := W.xaload (Or.inr (Or.inl ⟨rfl, rfl⟩)) at_308 hH hj hv h
theorem s0_309 {rm : Room} {S : List Value} {H : AHeap} {Q : Option Value → AHeap → Prop} {l0 l1 l2 l3 l4 l5 l6 l7 l8 l9 l10 l11 l12 l13 l14 l15 l16 l17 l18 l19 l20 l21 l22 l23 l24 l25 l26 l27 : Slot} {rm' : Room} {H' : AHeap} {a0 : Int64} {r : Int32} (hM : M5 rm' [.long a0] H (Is (some (.int r)) H')) (hr : rok rm rm' 2 S = true) (h : W0 (less rm rm') 312 [l0, l1, l2, l3, l4, l5, l6, l7, l8, l9, l10, l11, l12, l13, l14, l15, l16, l17, l18, l19, l20, l21, l22, l23, l24, l25, l26, l27] (.int r :: S) H' Q) : W0 rm 309 [l0, l1, l2, l3, l4, l5, l6, l7, l8, l9, l10, l11, l12, l13, l14, l15, l16, l17, l18, l19, l20, l21, l22, l23, l24, l25, l26, l27] (.long a0 :: S) H Q := W.callS (S := S) (as := [.long a0]) (rm' := rm') at_309 (List.mem_of_getElem? (i := 23) rfl) (List.mem_of_getElem? (i := 24) rfl) (List.mem_of_getElem? (i := 2) rfl) (List.mem_of_getElem? (i := 25) rfl) (by decide) pd4 rfl rfl hM hr (fun _ _ q => by obtain ⟨rfl, rfl⟩ := q; exact h)
theorem s0_309q {rm : Room} {S : List Value} {H : AHeap} {Q : Option Value → AHeap → Prop} {l0 l1 l2 l3 l4 l5 l6 l7 l8 l9 l10 l11 l12 l13 l14 l15 l16 l17 l18 l19 l20 l21 l22 l23 l24 l25 l26 l27 : Slot} {rm' : Room} {Q' : Option Value → AHeap → Prop} {a0 : Value} (hM : M5 rm' [a0] H Q') (hr : rok rm rm' 2 S = true) (h : ∀ v H', Q' v H' → W0 (less rm rm') 312 [l0, l1, l2, l3, l4, l5, l6, l7, l8, l9, l10, l11, l12, l13, l14, l15, l16, l17, l18, l19, l20, l21, l22, l23, l24, l25, l26, l27] (v.toList ++ S) H' Q) : W0 rm 309 [l0, l1, l2, l3, l4, l5, l6, l7, l8, l9, l10, l11, l12, l13, l14, l15, l16, l17, l18, l19, l20, l21, l22, l23, l24, l25, l26, l27] (a0 :: S) H Q := W.callS (S := S) (as := [a0]) (rm' := rm') at_309 (List.mem_of_getElem? (i := 23) rfl) (List.mem_of_getElem? (i := 24) rfl) (List.mem_of_getElem? (i := 2) rfl) (List.mem_of_getElem? (i := 25) rfl) (by decide) pd4 rfl rfl hM hr h
theorem s0_312 {rm : Room} {S : List Value} {H : AHeap} {Q : Option Value → AHeap → Prop} {l0 l1 l2 l3 l4 l5 l6 l7 l8 l9 l10 l11 l12 l13 l14 l15 l16 l17 l18 l19 l20 l21 l22 l23 l24 l25 l26 l27 : Slot} {x y : Int32} (h1 : ¬ x = y → W0 rm 339 [l0, l1, l2, l3, l4, l5, l6, l7, l8, l9, l10, l11, l12, l13, l14, l15, l16, l17, l18, l19, l20, l21, l22, l23, l24, l25, l26, l27] S H Q) (h2 : x = y → W0 rm 315 [l0, l1, l2, l3, l4, l5, l6, l7, l8, l9, l10, l11, l12, l13, l14, l15, l16, l17, l18, l19, l20, l21, l22, l23, l24, l25, l26, l27] S H Q) : W0 rm 312 [l0, l1, l2, l3, l4, l5, l6, l7, l8, l9, l10, l11, l12, l13, l14, l15, l16, l17, l18, l19, l20, l21, l22, l23, l24, l25, l26, l27] (.int y :: .int x :: S) H Q := W.icmp at_312 (by decide) (by decide) h1 h2
theorem s0_315 {rm : Room} {S : List Value} {H : AHeap} {Q : Option Value → AHeap → Prop} {l0 l1 l2 l3 l4 l5 l6 l7 l8 l9 l10 l11 l12 l13 l14 l15 l16 l17 l18 l19 l20 l21 l22 l23 l24 l25 l26 : Slot} {x : Int32} (h : W0 rm 317 [l0, l1, l2, l3, l4, l5, l6, l7, l8, l9, l10, l11, l12, l13, l14, l15, l16, l17, l18, l19, l20, l21, l22, l23, l24, l25, l26, .val (.int x)] (.int x :: S) (H) Q) : W0 rm 315 [l0, l1, l2, l3, l4, l5, l6, l7, l8, l9, l10, l11, l12, l13, l14, l15, l16, l17, l18, l19, l20, l21, l22, l23, l24, l25, l26, .val (.int x)] (S) H Q := W.iload at_315 rfl h
theorem s0_317 {rm : Room} {S : List Value} {H : AHeap} {Q : Option Value → AHeap → Prop} {l0 l1 l2 l3 l4 l5 l6 l7 l8 l9 l10 l11 l12 l13 l14 l15 l16 l17 l18 l19 l20 l22 l23 l24 l25 l26 l27 : Slot} {i : Nat} (h : W0 rm 319 [l0, l1, l2, l3, l4, l5, l6, l7, l8, l9, l10, l11, l12, l13, l14, l15, l16, l17, l18, l19, l20, .val (.ref i), l22, l23, l24, l25, l26, l27] (.ref i :: S) (H) Q) : W0 rm 317 [l0, l1, l2, l3, l4, l5, l6, l7, l8, l9, l10, l11, l12, l13, l14, l15, l16, l17, l18, l19, l20, .val (.ref i), l22, l23, l24, l25, l26, l27] (S) H Q := W.aload at_317 rfl rfl h
theorem s0_317n {rm : Room} {S : List Value} {H : AHeap} {Q : Option Value → AHeap → Prop} {l0 l1 l2 l3 l4 l5 l6 l7 l8 l9 l10 l11 l12 l13 l14 l15 l16 l17 l18 l19 l20 l22 l23 l24 l25 l26 l27 : Slot}  (h : W0 rm 319 [l0, l1, l2, l3, l4, l5, l6, l7, l8, l9, l10, l11, l12, l13, l14, l15, l16, l17, l18, l19, l20, .val .null, l22, l23, l24, l25, l26, l27] (.null :: S) (H) Q) : W0 rm 317 [l0, l1, l2, l3, l4, l5, l6, l7, l8, l9, l10, l11, l12, l13, l14, l15, l16, l17, l18, l19, l20, .val .null, l22, l23, l24, l25, l26, l27] (S) H Q := W.aload at_317 rfl rfl h
theorem s0_319 {rm : Room} {S : List Value} {H : AHeap} {Q : Option Value → AHeap → Prop} {l0 l1 l2 l3 l4 l5 l6 l7 l8 l9 l10 l11 l12 l13 l14 l15 l16 l17 l18 l19 l20 l21 l22 l23 l24 l25 l26 l27 : Slot}  (h : W0 rm 320 [l0, l1, l2, l3, l4, l5, l6, l7, l8, l9, l10, l11, l12, l13, l14, l15, l16, l17, l18, l19, l20, l21, l22, l23, l24, l25, l26, l27] (.int 4 :: S) (H) Q) : W0 rm 319 [l0, l1, l2, l3, l4, l5, l6, l7, l8, l9, l10, l11, l12, l13, l14, l15, l16, l17, l18, l19, l20, l21, l22, l23, l24, l25, l26, l27] (S) H Q := W.iconst' at_319 (by decide) h
theorem s0_320 {rm : Room} {S : List Value} {H : AHeap} {Q : Option Value → AHeap → Prop} {l0 l1 l2 l3 l4 l5 l6 l7 l8 l9 l10 l11 l12 l13 l14 l15 l16 l17 l18 l19 l20 l21 l22 l23 l24 l25 l26 l27 : Slot} {i : Nat} {j : Int32} {vs : List Value} {v : Value} (N : Nat) (hH : H[i]? = some (.inr (.long, vs))) (hj : ix j N) (hv : vs[N]? = some v) (h : W0 rm 321 [l0, l1, l2, l3, l4, l5, l6, l7, l8, l9, l10, l11, l12, l13, l14, l15, l16, l17, l18, l19, l20, l21, l22, l23, l24, l25, l26, l27] (v :: S) (H) Q) : W0 rm 320 [l0, l1, l2, l3, l4, l5, l6, l7, l8, l9, l10, l11, l12, l13, l14, l15, l16, l17, l18, l19, l20, l21, l22, l23, l24, l25, l26, l27] (.int j :: .ref i :: S) H Q := W.xaload (Or.inr (Or.inl ⟨rfl, rfl⟩)) at_320 hH hj hv h
theorem s0_321 {rm : Room} {S : List Value} {H : AHeap} {Q : Option Value → AHeap → Prop} {l0 l1 l2 l3 l4 l5 l6 l7 l8 l9 l10 l11 l12 l13 l14 l15 l16 l17 l18 l19 l20 l21 l22 l23 l24 l25 l26 l27 : Slot} {rm' : Room} {H' : AHeap} {a0 : Int64} {r : Int32} (hM : M5 rm' [.long a0] H (Is (some (.int r)) H')) (hr : rok rm rm' 2 S = true) (h : W0 (less rm rm') 324 [l0, l1, l2, l3, l4, l5, l6, l7, l8, l9, l10, l11, l12, l13, l14, l15, l16, l17, l18, l19, l20, l21, l22, l23, l24, l25, l26, l27] (.int r :: S) H' Q) : W0 rm 321 [l0, l1, l2, l3, l4, l5, l6, l7, l8, l9, l10, l11, l12, l13, l14, l15, l16, l17, l18, l19, l20, l21, l22, l23, l24, l25, l26, l27] (.long a0 :: S) H Q := W.callS (S := S) (as := [.long a0]) (rm' := rm') at_321 (List.mem_of_getElem? (i := 23) rfl) (List.mem_of_getElem? (i := 24) rfl) (List.mem_of_getElem? (i := 2) rfl) (List.mem_of_getElem? (i := 25) rfl) (by decide) pd4 rfl rfl hM hr (fun _ _ q => by obtain ⟨rfl, rfl⟩ := q; exact h)
theorem s0_321q {rm : Room} {S : List Value} {H : AHeap} {Q : Option Value → AHeap → Prop} {l0 l1 l2 l3 l4 l5 l6 l7 l8 l9 l10 l11 l12 l13 l14 l15 l16 l17 l18 l19 l20 l21 l22 l23 l24 l25 l26 l27 : Slot} {rm' : Room} {Q' : Option Value → AHeap → Prop} {a0 : Value} (hM : M5 rm' [a0] H Q') (hr : rok rm rm' 2 S = true) (h : ∀ v H', Q' v H' → W0 (less rm rm') 324 [l0, l1, l2, l3, l4, l5, l6, l7, l8, l9, l10, l11, l12, l13, l14, l15, l16, l17, l18, l19, l20, l21, l22, l23, l24, l25, l26, l27] (v.toList ++ S) H' Q) : W0 rm 321 [l0, l1, l2, l3, l4, l5, l6, l7, l8, l9, l10, l11, l12, l13, l14, l15, l16, l17, l18, l19, l20, l21, l22, l23, l24, l25, l26, l27] (a0 :: S) H Q := W.callS (S := S) (as := [a0]) (rm' := rm') at_321 (List.mem_of_getElem? (i := 23) rfl) (List.mem_of_getElem? (i := 24) rfl) (List.mem_of_getElem? (i := 2) rfl) (List.mem_of_getElem? (i := 25) rfl) (by decide) pd4 rfl rfl hM hr h
theorem s0_324 {rm : Room} {S : List Value} {H : AHeap} {Q : Option Value → AHeap → Prop} {l0 l1 l2 l3 l4 l5 l6 l7 l8 l9 l10 l11 l12 l13 l14 l15 l16 l17 l18 l19 l20 l21 l22 l23 l24 l25 l26 l27 : Slot} {x y : Int32} (h1 : ¬ x = y → W0 rm 339 [l0, l1, l2, l3, l4, l5, l6, l7, l8, l9, l10, l11, l12, l13, l14, l15, l16, l17, l18, l19, l20, l21, l22, l23, l24, l25, l26, l27] S H Q) (h2 : x = y → W0 rm 327 [l0, l1, l2, l3, l4, l5, l6, l7, l8, l9, l10, l11, l12, l13, l14, l15, l16, l17, l18, l19, l20, l21, l22, l23, l24, l25, l26, l27] S H Q) : W0 rm 324 [l0, l1, l2, l3, l4, l5, l6, l7, l8, l9, l10, l11, l12, l13, l14, l15, l16, l17, l18, l19, l20, l21, l22, l23, l24, l25, l26, l27] (.int y :: .int x :: S) H Q := W.icmp at_324 (by decide) (by decide) h1 h2
theorem s0_327 {rm : Room} {S : List Value} {H : AHeap} {Q : Option Value → AHeap → Prop} {l0 l1 l2 l3 l4 l5 l6 l7 l8 l9 l10 l11 l12 l13 l14 l15 l16 l17 l18 l19 l20 l21 l23 l24 l25 l26 l27 : Slot} {i : Nat} (h : W0 rm 329 [l0, l1, l2, l3, l4, l5, l6, l7, l8, l9, l10, l11, l12, l13, l14, l15, l16, l17, l18, l19, l20, l21, .val (.ref i), l23, l24, l25, l26, l27] (.ref i :: S) (H) Q) : W0 rm 327 [l0, l1, l2, l3, l4, l5, l6, l7, l8, l9, l10, l11, l12, l13, l14, l15, l16, l17, l18, l19, l20, l21, .val (.ref i), l23, l24, l25, l26, l27] (S) H Q := W.aload at_327 rfl rfl h
theorem s0_327n {rm : Room} {S : List Value} {H : AHeap} {Q : Option Value → AHeap → Prop} {l0 l1 l2 l3 l4 l5 l6 l7 l8 l9 l10 l11 l12 l13 l14 l15 l16 l17 l18 l19 l20 l21 l23 l24 l25 l26 l27 : Slot}  (h : W0 rm 329 [l0, l1, l2, l3, l4, l5, l6, l7, l8, l9, l10, l11, l12, l13, l14, l15, l16, l17, l18, l19, l20, l21, .val .null, l23, l24, l25, l26, l27] (.null :: S) (H) Q) : W0 rm 327 [l0, l1, l2, l3, l4, l5, l6, l7, l8, l9, l10, l11, l12, l13, l14, l15, l16, l17, l18, l19, l20, l21, .val .null, l23, l24, l25, l26, l27] (S) H Q := W.aload at_327 rfl rfl h
theorem s0_329 {rm : Room} {S : List Value} {H : AHeap} {Q : Option Value → AHeap → Prop} {l0 l1 l2 l3 l4 l5 l6 l7 l8 l9 l10 l11 l12 l13 l14 l15 l16 l17 l18 l19 l20 l21 l22 l23 l24 l25 l26 l27 : Slot} {rm' : Room} {H' : AHeap} {i : Nat} {vs : List Value}  {r : Int32} (hH : H[i]? = some (.inl (0, vs))) (hM : M8 rm' [.ref i] H (Is (some (.int r)) H')) (hr : rok rm rm' 1 S = true) (h : W0 (less rm rm') 332 [l0, l1, l2, l3, l4, l5, l6, l7, l8, l9, l10, l11, l12, l13, l14, l15, l16, l17, l18, l19, l20, l21, l22, l23, l24, l25, l26, l27] (.int r :: S) H' Q) : W0 rm 329 [l0, l1, l2, l3, l4, l5, l6, l7, l8, l9, l10, l11, l12, l13, l14, l15, l16, l17, l18, l19, l20, l21, l22, l23, l24, l25, l26, l27] (.ref i :: S) H Q := W.callV (c := 0) (S := S) (as := []) (rm' := rm') at_329 (List.mem_of_getElem? (i := 39) rfl) (List.mem_of_getElem? (i := 40) rfl) (List.mem_of_getElem? (i := 42) rfl) (Or.inl rfl) kt (List.mem_of_getElem? (i := 41) rfl) (List.mem_of_getElem? (i := 11) rfl) (List.mem_of_getElem? (i := 43) rfl) (by decide) rfl pd7 rfl rfl hH hM hr (fun _ _ q => by obtain ⟨rfl, rfl⟩ := q; exact h)
theorem s0_329q {rm : Room} {S : List Value} {H : AHeap} {Q : Option Value → AHeap → Prop} {l0 l1 l2 l3 l4 l5 l6 l7 l8 l9 l10 l11 l12 l13 l14 l15 l16 l17 l18 l19 l20 l21 l22 l23 l24 l25 l26 l27 : Slot} {rm' : Room} {Q' : Option Value → AHeap → Prop} {i : Nat} {vs : List Value}  (hH : H[i]? = some (.inl (0, vs))) (hM : M8 rm' [.ref i] H Q') (hr : rok rm rm' 1 S = true) (h : ∀ v H', Q' v H' → W0 (less rm rm') 332 [l0, l1, l2, l3, l4, l5, l6, l7, l8, l9, l10, l11, l12, l13, l14, l15, l16, l17, l18, l19, l20, l21, l22, l23, l24, l25, l26, l27] (v.toList ++ S) H' Q) : W0 rm 329 [l0, l1, l2, l3, l4, l5, l6, l7, l8, l9, l10, l11, l12, l13, l14, l15, l16, l17, l18, l19, l20, l21, l22, l23, l24, l25, l26, l27] (.ref i :: S) H Q := W.callV (c := 0) (S := S) (as := []) (rm' := rm') at_329 (List.mem_of_getElem? (i := 39) rfl) (List.mem_of_getElem? (i := 40) rfl) (List.mem_of_getElem? (i := 42) rfl) (Or.inl rfl) kt (List.mem_of_getElem? (i := 41) rfl) (List.mem_of_getElem? (i := 11) rfl) (List.mem_of_getElem? (i := 43) rfl) (by decide) rfl pd7 rfl rfl hH hM hr h
theorem s0_332 {rm : Room} {S : List Value} {H : AHeap} {Q : Option Value → AHeap → Prop} {l0 l1 l2 l3 l4 l5 l6 l7 l8 l9 l10 l11 l12 l13 l14 l15 l16 l17 l18 l19 l20 l21 l22 l23 l24 l25 l26 l27 : Slot} {x : Int32} (h1 : x = 0 → W0 rm 339 [l0, l1, l2, l3, l4, l5, l6, l7, l8, l9, l10, l11, l12, l13, l14, l15, l16, l17, l18, l19, l20, l21, l22, l23, l24, l25, l26, l27] S H Q) (h2 : ¬ x = 0 → W0 rm 335 [l0, l1, l2, l3, l4, l5, l6, l7, l8, l9, l10, l11, l12, l13, l14, l15, l16, l17, l18, l19, l20, l21, l22, l23, l24, l25, l26, l27] S H Q) : W0 rm 332 [l0, l1, l2, l3, l4, l5, l6, l7, l8, l9, l10, l11, l12, l13, l14, l15, l16, l17, l18, l19, l20, l21, l22, l23, l24, l25, l26, l27] (.int x :: S) H Q := W.ifc at_332 (by decide) (by decide) h1 h2
theorem s0_335 {rm : Room} {S : List Value} {H : AHeap} {Q : Option Value → AHeap → Prop} {l0 l1 l2 l3 l4 l5 l6 l7 l8 l9 l10 l11 l12 l13 l14 l15 l16 l17 l18 l19 l20 l21 l22 l23 l24 l25 l26 l27 : Slot}  (h : W0 rm 336 [l0, l1, l2, l3, l4, l5, l6, l7, l8, l9, l10, l11, l12, l13, l14, l15, l16, l17, l18, l19, l20, l21, l22, l23, l24, l25, l26, l27] (.int 1 :: S) (H) Q) : W0 rm 335 [l0, l1, l2, l3, l4, l5, l6, l7, l8, l9, l10, l11, l12, l13, l14, l15, l16, l17, l18, l19, l20, l21, l22, l23, l24, l25, l26, l27] (S) H Q := W.iconst' at_335 (by decide) h
theorem s0_336 {rm : Room} {S : List Value} {H : AHeap} {Q : Option Value → AHeap → Prop} {l0 l1 l2 l3 l4 l5 l6 l7 l8 l9 l10 l11 l12 l13 l14 l15 l16 l17 l18 l19 l20 l21 l22 l23 l24 l25 l26 l27 : Slot}  (h : W0 rm 340 [l0, l1, l2, l3, l4, l5, l6, l7, l8, l9, l10, l11, l12, l13, l14, l15, l16, l17, l18, l19, l20, l21, l22, l23, l24, l25, l26, l27] (S) (H) Q) : W0 rm 336 [l0, l1, l2, l3, l4, l5, l6, l7, l8, l9, l10, l11, l12, l13, l14, l15, l16, l17, l18, l19, l20, l21, l22, l23, l24, l25, l26, l27] (S) H Q := W.goto at_336 (by decide) (by decide) h
theorem s0_339 {rm : Room} {S : List Value} {H : AHeap} {Q : Option Value → AHeap → Prop} {l0 l1 l2 l3 l4 l5 l6 l7 l8 l9 l10 l11 l12 l13 l14 l15 l16 l17 l18 l19 l20 l21 l22 l23 l24 l25 l26 l27 : Slot}  (h : W0 rm 340 [l0, l1, l2, l3, l4, l5, l6, l7, l8, l9, l10, l11, l12, l13, l14, l15, l16, l17, l18, l19, l20, l21, l22, l23, l24, l25, l26, l27] (.int 0 :: S) (H) Q) : W0 rm 339 [l0, l1, l2, l3, l4, l5, l6, l7, l8, l9, l10, l11, l12, l13, l14, l15, l16, l17, l18, l19, l20, l21, l22, l23, l24, l25, l26, l27] (S) H Q := W.iconst' at_339 (by decide) h
theorem s0_340 {rm : Room} {S : List Value} {H : AHeap} {Q : Option Value → AHeap → Prop} {l0 l1 l2 l3 l4 l5 l6 l7 l8 l9 l10 l11 l12 l13 l14 l15 l16 l17 l18 l19 l20 l21 l22 l23 l24 l25 l26 l27 : Slot} {x : Int32} (hQ : Q (some (.int (x &&& 1))) H) : W0 rm 340 [l0, l1, l2, l3, l4, l5, l6, l7, l8, l9, l10, l11, l12, l13, l14, l15, l16, l17, l18, l19, l20, l21, l22, l23, l24, l25, l26, l27] (.int x :: S) H Q := W.ireturnZ at_340 rfl hQ
theorem e1 {rm : Room} {H : AHeap} {Q : Option Value → AHeap → Prop} {a0 : Int64} {a1 : Int32} {a2 : Int32} (h : W1 rm 0 [.val (.long a0), .second, .val (.int a1), .val (.int a2), .unset, .unset] [] H Q) : M1 rm [.long a0, .int a1, .int a2] H Q := M.of pf1 rfl rfl h
theorem e1L {rm : Room} {H : AHeap} {Q : Option Value → AHeap → Prop} {L : List Slot} {as : List Value} (h : W1 rm 0 L [] H Q) (hl : ent as ++ List.replicate (6 - (ent as).length) .unset = L := by rfl) (hn : L.length = 6 := by rfl) : M1 rm as H Q := M.of pf1 hl hn h
theorem d1_0 : decode method_2_code 0 = .ok (.lload_n 0, 1) := by decide +kernel
theorem s1_0 {rm : Room} {S : List Value} {H : AHeap} {Q : Option Value → AHeap → Prop} {l1 l2 l3 l4 l5 : Slot} {x : Int64} (h : W1 rm 1 [.val (.long x), l1, l2, l3, l4, l5] (.long x :: S) (H) Q) : W1 rm 0 [.val (.long x), l1, l2, l3, l4, l5] (S) H Q := W.lload_n d1_0 rfl h
theorem d1_1 : decode method_2_code 1 = .ok (.bipush 32, 2) := by decide +kernel
theorem s1_1 {rm : Room} {S : List Value} {H : AHeap} {Q : Option Value → AHeap → Prop} {l0 l1 l2 l3 l4 l5 : Slot}  (h : W1 rm 3 [l0, l1, l2, l3, l4, l5] (.int 32 :: S) (H) Q) : W1 rm 1 [l0, l1, l2, l3, l4, l5] (S) H Q := W.bipush' d1_1 (by decide) h
theorem d1_3 : decode method_2_code 3 = .ok (.lushr, 1) := by decide +kernel
theorem s1_3 {rm : Room} {S : List Value} {H : AHeap} {Q : Option Value → AHeap → Prop} {l0 l1 l2 l3 l4 l5 : Slot} {x : Int64} {y : Int32} (h : W1 rm 4 [l0, l1, l2, l3, l4, l5] (.long (XT.ushrL x y) :: S) (H) Q) : W1 rm 3 [l0, l1, l2, l3, l4, l5] (.int y :: .long x :: S) H Q := W.lushr d1_3 h
theorem d1_4 : decode method_2_code 4 = .ok (.l2i, 1) := by decide +kernel
theorem s1_4 {rm : Room} {S : List Value} {H : AHeap} {Q : Option Value → AHeap → Prop} {l0 l1 l2 l3 l4 l5 : Slot} {x : Int64} (h : W1 rm 5 [l0, l1, l2, l3, l4, l5] (.int x.toInt32 :: S) (H) Q) : W1 rm 4 [l0, l1, l2, l3, l4, l5] (.long x :: S) H Q := W.l2i d1_4 h
theorem d1_5 : decode method_2_code 5 = .ok (.ldc 7, 2) := by decide +kernel
theorem s1_5 {rm : Room} {S : List Value} {H : AHeap} {Q : Option Value → AHeap → Prop} {l0 l1 l2 l3 l4 l5 : Slot}  (h : W1 rm 7 [l0, l1, l2, l3, l4, l5] (.int 2147483647 :: S) (H) Q) : W1 rm 5 [l0, l1, l2, l3, l4, l5] (S) H Q := W.ldcInt d1_5 (List.mem_of_getElem? (i := 4) rfl) h
theorem d1_7 : decode method_2_code 7 = .ok (.iand, 1) := by decide +kernel
theorem s1_7 {rm : Room} {S : List Value} {H : AHeap} {Q : Option Value → AHeap → Prop} {l0 l1 l2 l3 l4 l5 : Slot} {x y : Int32} (h : W1 rm 8 [l0, l1, l2, l3, l4, l5] (.int (x &&& y) :: S) (H) Q) : W1 rm 7 [l0, l1, l2, l3, l4, l5] (.int y :: .int x :: S) H Q := W.iand d1_7 h
theorem d1_8 : decode method_2_code 8 = .ok (.istore 4, 2) := by decide +kernel
theorem s1_8 {rm : Room} {S : List Value} {H : AHeap} {Q : Option Value → AHeap → Prop} {l0 l1 l2 l3 l4 l5 : Slot} {x : Int32} (ho : one l4 = true) (h : W1 rm 10 [l0, l1, l2, l3, .val (.int x), l5] (S) (H) Q) : W1 rm 8 [l0, l1, l2, l3, l4, l5] (.int x :: S) H Q := W.istore d1_8 rfl ho h
theorem s1_8w {rm : Room} {S : List Value} {H : AHeap} {Q : Option Value → AHeap → Prop} {l0 l1 l2 l3 l5 : Slot} {w : Value} {x : Int32} (ho : w.category = 2) (h : W1 rm 10 [l0, l1, l2, l3, .val (.int x), .unset] (S) (H) Q) : W1 rm 8 [l0, l1, l2, l3, .val w, l5] (.int x :: S) H Q := W.istoreW d1_8 rfl ho (Nat.le_of_ble_eq_true rfl) h
theorem s1_8s {rm : Room} {S : List Value} {H : AHeap} {Q : Option Value → AHeap → Prop} {l0 l1 l2 l3 l5 : Slot} {x : Int32} (h : W1 rm 10 [l0, l1, l2, .unset, .val (.int x), l5] (S) (H) Q) : W1 rm 8 [l0, l1, l2, l3, .second, l5] (.int x :: S) H Q := W.istoreS d1_8 rfl (by decide) h
theorem d1_10 : decode method_2_code 10 = .ok (.lload_n 0, 1) := by decide +kernel
theorem s1_10 {rm : Room} {S : List Value} {H : AHeap} {Q : Option Value → AHeap → Prop} {l1 l2 l3 l4 l5 : Slot} {x : Int64} (h : W1 rm 11 [.val (.long x), l1, l2, l3, l4, l5] (.long x :: S) (H) Q) : W1 rm 10 [.val (.long x), l1, l2, l3, l4, l5] (S) H Q := W.lload_n d1_10 rfl h
theorem d1_11 : decode method_2_code 11 = .ok (.l2i, 1) := by decide +kernel
theorem s1_11 {rm : Room} {S : List Value} {H : AHeap} {Q : Option Value → AHeap → Prop} {l0 l1 l2 l3 l4 l5 : Slot} {x : Int64} (h : W1 rm 12 [l0, l1, l2, l3, l4, l5] (.int x.toInt32 :: S) (H) Q) : W1 rm 11 [l0, l1, l2, l3, l4, l5] (.long x :: S) H Q := W.l2i d1_11 h
theorem d1_12 : decode method_2_code 12 = .ok (.ldc 7, 2) := by decide +kernel
theorem s1_12 {rm : Room} {S : List Value} {H : AHeap} {Q : Option Value → AHeap → Prop} {l0 l1 l2 l3 l4 l5 : Slot}  (h : W1 rm 14 [l0, l1, l2, l3, l4, l5] (.int 2147483647 :: S) (H) Q) : W1 rm 12 [l0, l1, l2, l3, l4, l5] (S) H Q := W.ldcInt d1_12 (List.mem_of_getElem? (i := 4) rfl) h
theorem d1_14 : decode method_2_code 14 = .ok (.iand, 1) := by decide +kernel
theorem s1_14 {rm : Room} {S : List Value} {H : AHeap} {Q : Option Value → AHeap → Prop} {l0 l1 l2 l3 l4 l5 : Slot} {x y : Int32} (h : W1 rm 15 [l0, l1, l2, l3, l4, l5] (.int (x &&& y) :: S) (H) Q) : W1 rm 14 [l0, l1, l2, l3, l4, l5] (.int y :: .int x :: S) H Q := W.iand d1_14 h
theorem d1_15 : decode method_2_code 15 = .ok (.istore 5, 2) := by decide +kernel
theorem s1_15 {rm : Room} {S : List Value} {H : AHeap} {Q : Option Value → AHeap → Prop} {l0 l1 l2 l3 l4 l5 : Slot} {x : Int32} (ho : one l5 = true) (h : W1 rm 17 [l0, l1, l2, l3, l4, .val (.int x)] (S) (H) Q) : W1 rm 15 [l0, l1, l2, l3, l4, l5] (.int x :: S) H Q := W.istore d1_15 rfl ho h
theorem s1_15s {rm : Room} {S : List Value} {H : AHeap} {Q : Option Value → AHeap → Prop} {l0 l1 l2 l3 l4 : Slot} {x : Int32} (h : W1 rm 17 [l0, l1, l2, l3, .unset, .val (.int x)] (S) (H) Q) : W1 rm 15 [l0, l1, l2, l3, l4, .second] (.int x :: S) H Q := W.istoreS d1_15 rfl (by decide) h
theorem d1_17 : decode method_2_code 17 = .ok (.iload_n 2, 1) := by decide +kernel
theorem s1_17 {rm : Room} {S : List Value} {H : AHeap} {Q : Option Value → AHeap → Prop} {l0 l1 l3 l4 l5 : Slot} {x : Int32} (h : W1 rm 18 [l0, l1, .val (.int x), l3, l4, l5] (.int x :: S) (H) Q) : W1 rm 17 [l0, l1, .val (.int x), l3, l4, l5] (S) H Q := W.iload_n d1_17 rfl h
theorem d1_18 : decode method_2_code 18 = .ok (.iload_n 3, 1) := by decide +kernel
theorem s1_18 {rm : Room} {S : List Value} {H : AHeap} {Q : Option Value → AHeap → Prop} {l0 l1 l2 l4 l5 : Slot} {x : Int32} (h : W1 rm 19 [l0, l1, l2, .val (.int x), l4, l5] (.int x :: S) (H) Q) : W1 rm 18 [l0, l1, l2, .val (.int x), l4, l5] (S) H Q := W.iload_n d1_18 rfl h
theorem d1_19 : decode method_2_code 19 = .ok (.iushr, 1) := by decide +kernel
theorem s1_19 {rm : Room} {S : List Value} {H : AHeap} {Q : Option Value → AHeap → Prop} {l0 l1 l2 l3 l4 l5 : Slot} {x y : Int32} (h : W1 rm 20 [l0, l1, l2, l3, l4, l5] (.int (XT.ushr x y) :: S) (H) Q) : W1 rm 19 [l0, l1, l2, l3, l4, l5] (.int y :: .int x :: S) H Q := W.iushr d1_19 h
theorem d1_20 : decode method_2_code 20 = .ok (.iconst 1, 1) := by decide +kernel
theorem s1_20 {rm : Room} {S : List Value} {H : AHeap} {Q : Option Value → AHeap → Prop} {l0 l1 l2 l3 l4 l5 : Slot}  (h : W1 rm 21 [l0, l1, l2, l3, l4, l5] (.int 1 :: S) (H) Q) : W1 rm 20 [l0, l1, l2, l3, l4, l5] (S) H Q := W.iconst' d1_20 (by decide) h
theorem d1_21 : decode method_2_code 21 = .ok (.iand, 1) := by decide +kernel
theorem s1_21 {rm : Room} {S : List Value} {H : AHeap} {Q : Option Value → AHeap → Prop} {l0 l1 l2 l3 l4 l5 : Slot} {x y : Int32} (h : W1 rm 22 [l0, l1, l2, l3, l4, l5] (.int (x &&& y) :: S) (H) Q) : W1 rm 21 [l0, l1, l2, l3, l4, l5] (.int y :: .int x :: S) H Q := W.iand d1_21 h
theorem d1_22 : decode method_2_code 22 = .ok (.ifCond .eq 9, 3) := by decide +kernel
theorem s1_22 {rm : Room} {S : List Value} {H : AHeap} {Q : Option Value → AHeap → Prop} {l0 l1 l2 l3 l4 l5 : Slot} {x : Int32} (h1 : x = 0 → W1 rm 31 [l0, l1, l2, l3, l4, l5] S H Q) (h2 : ¬ x = 0 → W1 rm 25 [l0, l1, l2, l3, l4, l5] S H Q) : W1 rm 22 [l0, l1, l2, l3, l4, l5] (.int x :: S) H Q := W.ifc d1_22 (by decide) (by decide) h1 h2
theorem d1_25 : decode method_2_code 25 = .ok (.iload 4, 2) := by decide +kernel
theorem s1_25 {rm : Room} {S : List Value} {H : AHeap} {Q : Option Value → AHeap → Prop} {l0 l1 l2 l3 l5 : Slot} {x : Int32} (h : W1 rm 27 [l0, l1, l2, l3, .val (.int x), l5] (.int x :: S) (H) Q) : W1 rm 25 [l0, l1, l2, l3, .val (.int x), l5] (S) H Q := W.iload d1_25 rfl h
theorem d1_27 : decode method_2_code 27 = .ok (.iconst 1, 1) := by decide +kernel
theorem s1_27 {rm : Room} {S : List Value} {H : AHeap} {Q : Option Value → AHeap → Prop} {l0 l1 l2 l3 l4 l5 : Slot}  (h : W1 rm 28 [l0, l1, l2, l3, l4, l5] (.int 1 :: S) (H) Q) : W1 rm 27 [l0, l1, l2, l3, l4, l5] (S) H Q := W.iconst' d1_27 (by decide) h
theorem d1_28 : decode method_2_code 28 = .ok (.iand, 1) := by decide +kernel
theorem s1_28 {rm : Room} {S : List Value} {H : AHeap} {Q : Option Value → AHeap → Prop} {l0 l1 l2 l3 l4 l5 : Slot} {x y : Int32} (h : W1 rm 29 [l0, l1, l2, l3, l4, l5] (.int (x &&& y) :: S) (H) Q) : W1 rm 28 [l0, l1, l2, l3, l4, l5] (.int y :: .int x :: S) H Q := W.iand d1_28 h
theorem d1_29 : decode method_2_code 29 = .ok (.istore 4, 2) := by decide +kernel
theorem s1_29 {rm : Room} {S : List Value} {H : AHeap} {Q : Option Value → AHeap → Prop} {l0 l1 l2 l3 l4 l5 : Slot} {x : Int32} (ho : one l4 = true) (h : W1 rm 31 [l0, l1, l2, l3, .val (.int x), l5] (S) (H) Q) : W1 rm 29 [l0, l1, l2, l3, l4, l5] (.int x :: S) H Q := W.istore d1_29 rfl ho h
theorem s1_29w {rm : Room} {S : List Value} {H : AHeap} {Q : Option Value → AHeap → Prop} {l0 l1 l2 l3 l5 : Slot} {w : Value} {x : Int32} (ho : w.category = 2) (h : W1 rm 31 [l0, l1, l2, l3, .val (.int x), .unset] (S) (H) Q) : W1 rm 29 [l0, l1, l2, l3, .val w, l5] (.int x :: S) H Q := W.istoreW d1_29 rfl ho (Nat.le_of_ble_eq_true rfl) h
theorem s1_29s {rm : Room} {S : List Value} {H : AHeap} {Q : Option Value → AHeap → Prop} {l0 l1 l2 l3 l5 : Slot} {x : Int32} (h : W1 rm 31 [l0, l1, l2, .unset, .val (.int x), l5] (S) (H) Q) : W1 rm 29 [l0, l1, l2, l3, .second, l5] (.int x :: S) H Q := W.istoreS d1_29 rfl (by decide) h
theorem d1_31 : decode method_2_code 31 = .ok (.iload_n 2, 1) := by decide +kernel
theorem s1_31 {rm : Room} {S : List Value} {H : AHeap} {Q : Option Value → AHeap → Prop} {l0 l1 l3 l4 l5 : Slot} {x : Int32} (h : W1 rm 32 [l0, l1, .val (.int x), l3, l4, l5] (.int x :: S) (H) Q) : W1 rm 31 [l0, l1, .val (.int x), l3, l4, l5] (S) H Q := W.iload_n d1_31 rfl h
theorem d1_32 : decode method_2_code 32 = .ok (.iload_n 3, 1) := by decide +kernel
theorem s1_32 {rm : Room} {S : List Value} {H : AHeap} {Q : Option Value → AHeap → Prop} {l0 l1 l2 l4 l5 : Slot} {x : Int32} (h : W1 rm 33 [l0, l1, l2, .val (.int x), l4, l5] (.int x :: S) (H) Q) : W1 rm 32 [l0, l1, l2, .val (.int x), l4, l5] (S) H Q := W.iload_n d1_32 rfl h
theorem d1_33 : decode method_2_code 33 = .ok (.iconst 5, 1) := by decide +kernel
theorem s1_33 {rm : Room} {S : List Value} {H : AHeap} {Q : Option Value → AHeap → Prop} {l0 l1 l2 l3 l4 l5 : Slot}  (h : W1 rm 34 [l0, l1, l2, l3, l4, l5] (.int 5 :: S) (H) Q) : W1 rm 33 [l0, l1, l2, l3, l4, l5] (S) H Q := W.iconst' d1_33 (by decide) h
theorem d1_34 : decode method_2_code 34 = .ok (.iadd, 1) := by decide +kernel
theorem s1_34 {rm : Room} {S : List Value} {H : AHeap} {Q : Option Value → AHeap → Prop} {l0 l1 l2 l3 l4 l5 : Slot} {x y : Int32} (h : W1 rm 35 [l0, l1, l2, l3, l4, l5] (.int (x + y) :: S) (H) Q) : W1 rm 34 [l0, l1, l2, l3, l4, l5] (.int y :: .int x :: S) H Q := W.iadd d1_34 h
theorem d1_35 : decode method_2_code 35 = .ok (.iushr, 1) := by decide +kernel
theorem s1_35 {rm : Room} {S : List Value} {H : AHeap} {Q : Option Value → AHeap → Prop} {l0 l1 l2 l3 l4 l5 : Slot} {x y : Int32} (h : W1 rm 36 [l0, l1, l2, l3, l4, l5] (.int (XT.ushr x y) :: S) (H) Q) : W1 rm 35 [l0, l1, l2, l3, l4, l5] (.int y :: .int x :: S) H Q := W.iushr d1_35 h
theorem d1_36 : decode method_2_code 36 = .ok (.iconst 1, 1) := by decide +kernel
theorem s1_36 {rm : Room} {S : List Value} {H : AHeap} {Q : Option Value → AHeap → Prop} {l0 l1 l2 l3 l4 l5 : Slot}  (h : W1 rm 37 [l0, l1, l2, l3, l4, l5] (.int 1 :: S) (H) Q) : W1 rm 36 [l0, l1, l2, l3, l4, l5] (S) H Q := W.iconst' d1_36 (by decide) h
theorem d1_37 : decode method_2_code 37 = .ok (.iand, 1) := by decide +kernel
theorem s1_37 {rm : Room} {S : List Value} {H : AHeap} {Q : Option Value → AHeap → Prop} {l0 l1 l2 l3 l4 l5 : Slot} {x y : Int32} (h : W1 rm 38 [l0, l1, l2, l3, l4, l5] (.int (x &&& y) :: S) (H) Q) : W1 rm 37 [l0, l1, l2, l3, l4, l5] (.int y :: .int x :: S) H Q := W.iand d1_37 h
theorem d1_38 : decode method_2_code 38 = .ok (.ifCond .eq 9, 3) := by decide +kernel
theorem s1_38 {rm : Room} {S : List Value} {H : AHeap} {Q : Option Value → AHeap → Prop} {l0 l1 l2 l3 l4 l5 : Slot} {x : Int32} (h1 : x = 0 → W1 rm 47 [l0, l1, l2, l3, l4, l5] S H Q) (h2 : ¬ x = 0 → W1 rm 41 [l0, l1, l2, l3, l4, l5] S H Q) : W1 rm 38 [l0, l1, l2, l3, l4, l5] (.int x :: S) H Q := W.ifc d1_38 (by decide) (by decide) h1 h2
theorem d1_41 : decode method_2_code 41 = .ok (.iload 5, 2) := by decide +kernel
theorem s1_41 {rm : Room} {S : List Value} {H : AHeap} {Q : Option Value → AHeap → Prop} {l0 l1 l2 l3 l4 : Slot} {x : Int32} (h : W1 rm 43 [l0, l1, l2, l3, l4, .val (.int x)] (.int x :: S) (H) Q) : W1 rm 41 [l0, l1, l2, l3, l4, .val (.int x)] (S) H Q := W.iload d1_41 rfl h
theorem d1_43 : decode method_2_code 43 = .ok (.iconst 1, 1) := by decide +kernel
theorem s1_43 {rm : Room} {S : List Value} {H : AHeap} {Q : Option Value → AHeap → Prop} {l0 l1 l2 l3 l4 l5 : Slot}  (h : W1 rm 44 [l0, l1, l2, l3, l4, l5] (.int 1 :: S) (H) Q) : W1 rm 43 [l0, l1, l2, l3, l4, l5] (S) H Q := W.iconst' d1_43 (by decide) h
theorem d1_44 : decode method_2_code 44 = .ok (.iand, 1) := by decide +kernel
theorem s1_44 {rm : Room} {S : List Value} {H : AHeap} {Q : Option Value → AHeap → Prop} {l0 l1 l2 l3 l4 l5 : Slot} {x y : Int32} (h : W1 rm 45 [l0, l1, l2, l3, l4, l5] (.int (x &&& y) :: S) (H) Q) : W1 rm 44 [l0, l1, l2, l3, l4, l5] (.int y :: .int x :: S) H Q := W.iand d1_44 h
theorem d1_45 : decode method_2_code 45 = .ok (.istore 5, 2) := by decide +kernel
theorem s1_45 {rm : Room} {S : List Value} {H : AHeap} {Q : Option Value → AHeap → Prop} {l0 l1 l2 l3 l4 l5 : Slot} {x : Int32} (ho : one l5 = true) (h : W1 rm 47 [l0, l1, l2, l3, l4, .val (.int x)] (S) (H) Q) : W1 rm 45 [l0, l1, l2, l3, l4, l5] (.int x :: S) H Q := W.istore d1_45 rfl ho h
theorem s1_45s {rm : Room} {S : List Value} {H : AHeap} {Q : Option Value → AHeap → Prop} {l0 l1 l2 l3 l4 : Slot} {x : Int32} (h : W1 rm 47 [l0, l1, l2, l3, .unset, .val (.int x)] (S) (H) Q) : W1 rm 45 [l0, l1, l2, l3, l4, .second] (.int x :: S) H Q := W.istoreS d1_45 rfl (by decide) h
theorem d1_47 : decode method_2_code 47 = .ok (.iload 4, 2) := by decide +kernel
theorem s1_47 {rm : Room} {S : List Value} {H : AHeap} {Q : Option Value → AHeap → Prop} {l0 l1 l2 l3 l5 : Slot} {x : Int32} (h : W1 rm 49 [l0, l1, l2, l3, .val (.int x), l5] (.int x :: S) (H) Q) : W1 rm 47 [l0, l1, l2, l3, .val (.int x), l5] (S) H Q := W.iload d1_47 rfl h
theorem d1_49 : decode method_2_code 49 = .ok (.i2l, 1) := by decide +kernel
theorem s1_49 {rm : Room} {S : List Value} {H : AHeap} {Q : Option Value → AHeap → Prop} {l0 l1 l2 l3 l4 l5 : Slot} {x : Int32} (h : W1 rm 50 [l0, l1, l2, l3, l4, l5] (.long x.toInt64 :: S) (H) Q) : W1 rm 49 [l0, l1, l2, l3, l4, l5] (.int x :: S) H Q := W.i2l d1_49 h
theorem d1_50 : decode method_2_code 50 = .ok (.bipush 32, 2) := by decide +kernel
theorem s1_50 {rm : Room} {S : List Value} {H : AHeap} {Q : Option Value → AHeap → Prop} {l0 l1 l2 l3 l4 l5 : Slot}  (h : W1 rm 52 [l0, l1, l2, l3, l4, l5] (.int 32 :: S) (H) Q) : W1 rm 50 [l0, l1, l2, l3, l4, l5] (S) H Q := W.bipush' d1_50 (by decide) h
theorem d1_52 : decode method_2_code 52 = .ok (.lshl, 1) := by decide +kernel
theorem s1_52 {rm : Room} {S : List Value} {H : AHeap} {Q : Option Value → AHeap → Prop} {l0 l1 l2 l3 l4 l5 : Slot} {x : Int64} {y : Int32} (h : W1 rm 53 [l0, l1, l2, l3, l4, l5] (.long (x <<< (y.toInt64 &&& 63)) :: S) (H) Q) : W1 rm 52 [l0, l1, l2, l3, l4, l5] (.int y :: .long x :: S) H Q := W.lshl d1_52 h
theorem d1_53 : decode method_2_code 53 = .ok (.iload 5, 2) := by decide +kernel
theorem s1_53 {rm : Room} {S : List Value} {H : AHeap} {Q : Option Value → AHeap → Prop} {l0 l1 l2 l3 l4 : Slot} {x : Int32} (h : W1 rm 55 [l0, l1, l2, l3, l4, .val (.int x)] (.int x :: S) (H) Q) : W1 rm 53 [l0, l1, l2, l3, l4, .val (.int x)] (S) H Q := W.iload d1_53 rfl h
theorem d1_55 : decode method_2_code 55 = .ok (.i2l, 1) := by decide +kernel
theorem s1_55 {rm : Room} {S : List Value} {H : AHeap} {Q : Option Value → AHeap → Prop} {l0 l1 l2 l3 l4 l5 : Slot} {x : Int32} (h : W1 rm 56 [l0, l1, l2, l3, l4, l5] (.long x.toInt64 :: S) (H) Q) : W1 rm 55 [l0, l1, l2, l3, l4, l5] (.int x :: S) H Q := W.i2l d1_55 h
theorem d1_56 : decode method_2_code 56 = .ok (.lor, 1) := by decide +kernel
theorem s1_56 {rm : Room} {S : List Value} {H : AHeap} {Q : Option Value → AHeap → Prop} {l0 l1 l2 l3 l4 l5 : Slot} {x y : Int64} (h : W1 rm 57 [l0, l1, l2, l3, l4, l5] (.long (x ||| y) :: S) (H) Q) : W1 rm 56 [l0, l1, l2, l3, l4, l5] (.long y :: .long x :: S) H Q := W.lor d1_56 h
theorem d1_57 : decode method_2_code 57 = .ok (.lreturn, 1) := by decide +kernel
theorem s1_57 {rm : Room} {S : List Value} {H : AHeap} {Q : Option Value → AHeap → Prop} {l0 l1 l2 l3 l4 l5 : Slot} {x : Int64} (hQ : Q (some (.long x)) H) : W1 rm 57 [l0, l1, l2, l3, l4, l5] (.long x :: S) H Q := W.lreturn d1_57 rfl hQ
theorem e2 {rm : Room} {H : AHeap} {Q : Option Value → AHeap → Prop} {a0 : Nat} {a1 : Int32} {a2 : Int32} (h : W2 rm 0 [.val (.ref a0), .val (.int a1), .val (.int a2), .unset, .unset] [] H Q) : M2 rm [.ref a0, .int a1, .int a2] H Q := M.of pf2 rfl rfl h
theorem e2L {rm : Room} {H : AHeap} {Q : Option Value → AHeap → Prop} {L : List Slot} {as : List Value} (h : W2 rm 0 L [] H Q) (hl : ent as ++ List.replicate (5 - (ent as).length) .unset = L := by rfl) (hn : L.length = 5 := by rfl) : M2 rm as H Q := M.of pf2 hl hn h
theorem d2_0 : decode method_5_code 0 = .ok (.aload_n 0, 1) := by decide +kernel
theorem s2_0 {rm : Room} {S : List Value} {H : AHeap} {Q : Option Value → AHeap → Prop} {l1 l2 l3 l4 : Slot} {i : Nat} (h : W2 rm 1 [.val (.ref i), l1, l2, l3, l4] (.ref i :: S) (H) Q) : W2 rm 0 [.val (.ref i), l1, l2, l3, l4] (S) H Q := W.aload_n d2_0 rfl rfl h
theorem s2_0n {rm : Room} {S : List Value} {H : AHeap} {Q : Option Value → AHeap → Prop} {l1 l2 l3 l4 : Slot}  (h : W2 rm 1 [.val .null, l1, l2, l3, l4] (.null :: S) (H) Q) : W2 rm 0 [.val .null, l1, l2, l3, l4] (S) H Q := W.aload_n d2_0 rfl rfl h
theorem d2_1 : decode method_5_code 1 = .ok (.iload_n 1, 1) := by decide +kernel
theorem s2_1 {rm : Room} {S : List Value} {H : AHeap} {Q : Option Value → AHeap → Prop} {l0 l2 l3 l4 : Slot} {x : Int32} (h : W2 rm 2 [l0, .val (.int x), l2, l3, l4] (.int x :: S) (H) Q) : W2 rm 1 [l0, .val (.int x), l2, l3, l4] (S) H Q := W.iload_n d2_1 rfl h
theorem d2_2 : decode method_5_code 2 = .ok (.laload, 1) := by decide +kernel
theorem s2_2 {rm : Room} {S : List Value} {H : AHeap} {Q : Option Value → AHeap → Prop} {l0 l1 l2 l3 l4 : Slot} {i : Nat} {j : Int32} {vs : List Value} {v : Value} (N : Nat) (hH : H[i]? = some (.inr (.long, vs))) (hj : ix j N) (hv : vs[N]? = some v) (h : W2 rm 3 [l0, l1, l2, l3, l4] (v :: S) (H) Q) : W2 rm 2 [l0, l1, l2, l3, l4] (.int j :: .ref i :: S) H Q := W.xaload (Or.inr (Or.inl ⟨rfl, rfl⟩)) d2_2 hH hj hv h
theorem d2_3 : decode method_5_code 3 = .ok (.aload_n 0, 1) := by decide +kernel
theorem s2_3 {rm : Room} {S : List Value} {H : AHeap} {Q : Option Value → AHeap → Prop} {l1 l2 l3 l4 : Slot} {i : Nat} (h : W2 rm 4 [.val (.ref i), l1, l2, l3, l4] (.ref i :: S) (H) Q) : W2 rm 3 [.val (.ref i), l1, l2, l3, l4] (S) H Q := W.aload_n d2_3 rfl rfl h
theorem s2_3n {rm : Room} {S : List Value} {H : AHeap} {Q : Option Value → AHeap → Prop} {l1 l2 l3 l4 : Slot}  (h : W2 rm 4 [.val .null, l1, l2, l3, l4] (.null :: S) (H) Q) : W2 rm 3 [.val .null, l1, l2, l3, l4] (S) H Q := W.aload_n d2_3 rfl rfl h
theorem d2_4 : decode method_5_code 4 = .ok (.iload_n 2, 1) := by decide +kernel
theorem s2_4 {rm : Room} {S : List Value} {H : AHeap} {Q : Option Value → AHeap → Prop} {l0 l1 l3 l4 : Slot} {x : Int32} (h : W2 rm 5 [l0, l1, .val (.int x), l3, l4] (.int x :: S) (H) Q) : W2 rm 4 [l0, l1, .val (.int x), l3, l4] (S) H Q := W.iload_n d2_4 rfl h
theorem d2_5 : decode method_5_code 5 = .ok (.laload, 1) := by decide +kernel
theorem s2_5 {rm : Room} {S : List Value} {H : AHeap} {Q : Option Value → AHeap → Prop} {l0 l1 l2 l3 l4 : Slot} {i : Nat} {j : Int32} {vs : List Value} {v : Value} (N : Nat) (hH : H[i]? = some (.inr (.long, vs))) (hj : ix j N) (hv : vs[N]? = some v) (h : W2 rm 6 [l0, l1, l2, l3, l4] (v :: S) (H) Q) : W2 rm 5 [l0, l1, l2, l3, l4] (.int j :: .ref i :: S) H Q := W.xaload (Or.inr (Or.inl ⟨rfl, rfl⟩)) d2_5 hH hj hv h
theorem d2_6 : decode method_5_code 6 = .ok (.lcmp, 1) := by decide +kernel
theorem d2_7 : decode method_5_code 7 = .ok (.ifCond .le 17, 3) := by decide +kernel
theorem s2_7 {rm : Room} {S : List Value} {H : AHeap} {Q : Option Value → AHeap → Prop} {l0 l1 l2 l3 l4 : Slot} {x : Int32} (h1 : ¬ 0 < x → W2 rm 24 [l0, l1, l2, l3, l4] S H Q) (h2 : 0 < x → W2 rm 10 [l0, l1, l2, l3, l4] S H Q) : W2 rm 7 [l0, l1, l2, l3, l4] (.int x :: S) H Q := W.ifc d2_7 (by decide) (by decide) h1 h2
theorem s2_6c {rm : Room} {S : List Value} {H : AHeap} {Q : Option Value → AHeap → Prop} {l0 l1 l2 l3 l4 : Slot} {x y : Int64} (h1 : ¬ y < x → W2 rm 24 [l0, l1, l2, l3, l4] S H Q) (h2 : y < x → W2 rm 10 [l0, l1, l2, l3, l4] S H Q) : W2 rm 6 [l0, l1, l2, l3, l4] (.long y :: .long x :: S) H Q := W.lcif d2_6 rfl d2_7 (by decide) (by decide) h1 h2
theorem d2_10 : decode method_5_code 10 = .ok (.aload_n 0, 1) := by decide +kernel
theorem s2_10 {rm : Room} {S : List Value} {H : AHeap} {Q : Option Value → AHeap → Prop} {l1 l2 l3 l4 : Slot} {i : Nat} (h : W2 rm 11 [.val (.ref i), l1, l2, l3, l4] (.ref i :: S) (H) Q) : W2 rm 10 [.val (.ref i), l1, l2, l3, l4] (S) H Q := W.aload_n d2_10 rfl rfl h
theorem s2_10n {rm : Room} {S : List Value} {H : AHeap} {Q : Option Value → AHeap → Prop} {l1 l2 l3 l4 : Slot}  (h : W2 rm 11 [.val .null, l1, l2, l3, l4] (.null :: S) (H) Q) : W2 rm 10 [.val .null, l1, l2, l3, l4] (S) H Q := W.aload_n d2_10 rfl rfl h
theorem d2_11 : decode method_5_code 11 = .ok (.iload_n 1, 1) := by decide +kernel
theorem s2_11 {rm : Room} {S : List Value} {H : AHeap} {Q : Option Value → AHeap → Prop} {l0 l2 l3 l4 : Slot} {x : Int32} (h : W2 rm 12 [l0, .val (.int x), l2, l3, l4] (.int x :: S) (H) Q) : W2 rm 11 [l0, .val (.int x), l2, l3, l4] (S) H Q := W.iload_n d2_11 rfl h
theorem d2_12 : decode method_5_code 12 = .ok (.laload, 1) := by decide +kernel
theorem s2_12 {rm : Room} {S : List Value} {H : AHeap} {Q : Option Value → AHeap → Prop} {l0 l1 l2 l3 l4 : Slot} {i : Nat} {j : Int32} {vs : List Value} {v : Value} (N : Nat) (hH : H[i]? = some (.inr (.long, vs))) (hj : ix j N) (hv : vs[N]? = some v) (h : W2 rm 13 [l0, l1, l2, l3, l4] (v :: S) (H) Q) : W2 rm 12 [l0, l1, l2, l3, l4] (.int j :: .ref i :: S) H Q := W.xaload (Or.inr (Or.inl ⟨rfl, rfl⟩)) d2_12 hH hj hv h
theorem d2_13 : decode method_5_code 13 = .ok (.lstore_n 3, 1) := by decide +kernel
theorem s2_13 {rm : Room} {S : List Value} {H : AHeap} {Q : Option Value → AHeap → Prop} {l0 l1 l2 l3 l4 : Slot} {x : Int64} (ho : two l3 l4 = true) (h : W2 rm 14 [l0, l1, l2, .val (.long x), .second] (S) (H) Q) : W2 rm 13 [l0, l1, l2, l3, l4] (.long x :: S) H Q := W.lstore_n d2_13 rfl rfl ho h
theorem d2_14 : decode method_5_code 14 = .ok (.aload_n 0, 1) := by decide +kernel
theorem s2_14 {rm : Room} {S : List Value} {H : AHeap} {Q : Option Value → AHeap → Prop} {l1 l2 l3 l4 : Slot} {i : Nat} (h : W2 rm 15 [.val (.ref i), l1, l2, l3, l4] (.ref i :: S) (H) Q) : W2 rm 14 [.val (.ref i), l1, l2, l3, l4] (S) H Q := W.aload_n d2_14 rfl rfl h
theorem s2_14n {rm : Room} {S : List Value} {H : AHeap} {Q : Option Value → AHeap → Prop} {l1 l2 l3 l4 : Slot}  (h : W2 rm 15 [.val .null, l1, l2, l3, l4] (.null :: S) (H) Q) : W2 rm 14 [.val .null, l1, l2, l3, l4] (S) H Q := W.aload_n d2_14 rfl rfl h
theorem d2_15 : decode method_5_code 15 = .ok (.iload_n 1, 1) := by decide +kernel
theorem s2_15 {rm : Room} {S : List Value} {H : AHeap} {Q : Option Value → AHeap → Prop} {l0 l2 l3 l4 : Slot} {x : Int32} (h : W2 rm 16 [l0, .val (.int x), l2, l3, l4] (.int x :: S) (H) Q) : W2 rm 15 [l0, .val (.int x), l2, l3, l4] (S) H Q := W.iload_n d2_15 rfl h
theorem d2_16 : decode method_5_code 16 = .ok (.aload_n 0, 1) := by decide +kernel
theorem s2_16 {rm : Room} {S : List Value} {H : AHeap} {Q : Option Value → AHeap → Prop} {l1 l2 l3 l4 : Slot} {i : Nat} (h : W2 rm 17 [.val (.ref i), l1, l2, l3, l4] (.ref i :: S) (H) Q) : W2 rm 16 [.val (.ref i), l1, l2, l3, l4] (S) H Q := W.aload_n d2_16 rfl rfl h
theorem s2_16n {rm : Room} {S : List Value} {H : AHeap} {Q : Option Value → AHeap → Prop} {l1 l2 l3 l4 : Slot}  (h : W2 rm 17 [.val .null, l1, l2, l3, l4] (.null :: S) (H) Q) : W2 rm 16 [.val .null, l1, l2, l3, l4] (S) H Q := W.aload_n d2_16 rfl rfl h
theorem d2_17 : decode method_5_code 17 = .ok (.iload_n 2, 1) := by decide +kernel
theorem s2_17 {rm : Room} {S : List Value} {H : AHeap} {Q : Option Value → AHeap → Prop} {l0 l1 l3 l4 : Slot} {x : Int32} (h : W2 rm 18 [l0, l1, .val (.int x), l3, l4] (.int x :: S) (H) Q) : W2 rm 17 [l0, l1, .val (.int x), l3, l4] (S) H Q := W.iload_n d2_17 rfl h
theorem d2_18 : decode method_5_code 18 = .ok (.laload, 1) := by decide +kernel
theorem s2_18 {rm : Room} {S : List Value} {H : AHeap} {Q : Option Value → AHeap → Prop} {l0 l1 l2 l3 l4 : Slot} {i : Nat} {j : Int32} {vs : List Value} {v : Value} (N : Nat) (hH : H[i]? = some (.inr (.long, vs))) (hj : ix j N) (hv : vs[N]? = some v) (h : W2 rm 19 [l0, l1, l2, l3, l4] (v :: S) (H) Q) : W2 rm 18 [l0, l1, l2, l3, l4] (.int j :: .ref i :: S) H Q := W.xaload (Or.inr (Or.inl ⟨rfl, rfl⟩)) d2_18 hH hj hv h
theorem d2_19 : decode method_5_code 19 = .ok (.lastore, 1) := by decide +kernel
theorem s2_19 {rm : Room} {S : List Value} {H : AHeap} {Q : Option Value → AHeap → Prop} {l0 l1 l2 l3 l4 : Slot} {i : Nat} {j : Int32} {x : Int64} {vs : List Value} (N : Nat) (hH : H[i]? = some (.inr (.long, vs))) (hj : ix j N) (hl : Nat.blt N vs.length = true) (h : W2 rm 20 [l0, l1, l2, l3, l4] (S) (H.set i (.inr (.long, vs.set N (.long x)))) Q) : W2 rm 19 [l0, l1, l2, l3, l4] (.long x :: .int j :: .ref i :: S) H Q := W.lastore d2_19 hH hj hl h
theorem d2_20 : decode method_5_code 20 = .ok (.aload_n 0, 1) := by decide +kernel
theorem s2_20 {rm : Room} {S : List Value} {H : AHeap} {Q : Option Value → AHeap → Prop} {l1 l2 l3 l4 : Slot} {i : Nat} (h : W2 rm 21 [.val (.ref i), l1, l2, l3, l4] (.ref i :: S) (H) Q) : W2 rm 20 [.val (.ref i), l1, l2, l3, l4] (S) H Q := W.aload_n d2_20 rfl rfl h
theorem s2_20n {rm : Room} {S : List Value} {H : AHeap} {Q : Option Value → AHeap → Prop} {l1 l2 l3 l4 : Slot}  (h : W2 rm 21 [.val .null, l1, l2, l3, l4] (.null :: S) (H) Q) : W2 rm 20 [.val .null, l1, l2, l3, l4] (S) H Q := W.aload_n d2_20 rfl rfl h
theorem d2_21 : decode method_5_code 21 = .ok (.iload_n 2, 1) := by decide +kernel
theorem s2_21 {rm : Room} {S : List Value} {H : AHeap} {Q : Option Value → AHeap → Prop} {l0 l1 l3 l4 : Slot} {x : Int32} (h : W2 rm 22 [l0, l1, .val (.int x), l3, l4] (.int x :: S) (H) Q) : W2 rm 21 [l0, l1, .val (.int x), l3, l4] (S) H Q := W.iload_n d2_21 rfl h
theorem d2_22 : decode method_5_code 22 = .ok (.lload_n 3, 1) := by decide +kernel
theorem s2_22 {rm : Room} {S : List Value} {H : AHeap} {Q : Option Value → AHeap → Prop} {l0 l1 l2 l4 : Slot} {x : Int64} (h : W2 rm 23 [l0, l1, l2, .val (.long x), l4] (.long x :: S) (H) Q) : W2 rm 22 [l0, l1, l2, .val (.long x), l4] (S) H Q := W.lload_n d2_22 rfl h
theorem d2_23 : decode method_5_code 23 = .ok (.lastore, 1) := by decide +kernel
theorem s2_23 {rm : Room} {S : List Value} {H : AHeap} {Q : Option Value → AHeap → Prop} {l0 l1 l2 l3 l4 : Slot} {i : Nat} {j : Int32} {x : Int64} {vs : List Value} (N : Nat) (hH : H[i]? = some (.inr (.long, vs))) (hj : ix j N) (hl : Nat.blt N vs.length = true) (h : W2 rm 24 [l0, l1, l2, l3, l4] (S) (H.set i (.inr (.long, vs.set N (.long x)))) Q) : W2 rm 23 [l0, l1, l2, l3, l4] (.long x :: .int j :: .ref i :: S) H Q := W.lastore d2_23 hH hj hl h
theorem d2_24 : decode method_5_code 24 = .ok (.return_, 1) := by decide +kernel
theorem s2_24 {rm : Room} {H : AHeap} {Q : Option Value → AHeap → Prop} {l0 l1 l2 l3 l4 : Slot} (hQ : Q none H) : W2 rm 24 [l0, l1, l2, l3, l4] [] H Q := W.ret_ d2_24 rfl hQ
theorem e3 {rm : Room} {H : AHeap} {Q : Option Value → AHeap → Prop} {a0 : Nat} (h : W3 rm 0 [.val (.ref a0)] [] H Q) : M3 rm [.ref a0] H Q := M.of pf3 rfl rfl h
theorem e3L {rm : Room} {H : AHeap} {Q : Option Value → AHeap → Prop} {L : List Slot} {as : List Value} (h : W3 rm 0 L [] H Q) (hl : ent as ++ List.replicate (1 - (ent as).length) .unset = L := by rfl) (hn : L.length = 1 := by rfl) : M3 rm as H Q := M.of pf3 hl hn h
theorem d3_0 : decode prog_35_method_1_code 0 = .ok (.aload_n 0, 1) := by decide +kernel
theorem s3_0 {rm : Room} {S : List Value} {H : AHeap} {Q : Option Value → AHeap → Prop} {i : Nat} (h : W3 rm 1 [.val (.ref i)] (.ref i :: S) (H) Q) : W3 rm 0 [.val (.ref i)] (S) H Q := W.aload_n d3_0 rfl rfl h
theorem s3_0n {rm : Room} {S : List Value} {H : AHeap} {Q : Option Value → AHeap → Prop}  (h : W3 rm 1 [.val .null] (.null :: S) (H) Q) : W3 rm 0 [.val .null] (S) H Q := W.aload_n d3_0 rfl rfl h
theorem d3_1 : decode prog_35_method_1_code 1 = .ok (.invokespecial 1, 3) := by decide +kernel
theorem s3_1 {rm : Room} {S : List Value} {H : AHeap} {Q : Option Value → AHeap → Prop} {l0 : Slot} {i : Nat} (hr : iok rm S = true) (h : W3 rm 4 [l0] (S) (H) Q) : W3 rm 1 [l0] (.ref i :: S) H Q := W.initO d3_1 (List.mem_of_getElem? (i := 15) rfl) (List.mem_of_getElem? (i := 16) rfl) (List.mem_of_getElem? (i := 17) rfl) hr h
theorem d3_4 : decode prog_35_method_1_code 4 = .ok (.aload_n 0, 1) := by decide +kernel
theorem s3_4 {rm : Room} {S : List Value} {H : AHeap} {Q : Option Value → AHeap → Prop} {i : Nat} (h : W3 rm 5 [.val (.ref i)] (.ref i :: S) (H) Q) : W3 rm 4 [.val (.ref i)] (S) H Q := W.aload_n d3_4 rfl rfl h
theorem s3_4n {rm : Room} {S : List Value} {H : AHeap} {Q : Option Value → AHeap → Prop}  (h : W3 rm 5 [.val .null] (.null :: S) (H) Q) : W3 rm 4 [.val .null] (S) H Q := W.aload_n d3_4 rfl rfl h
theorem d3_5 : decode prog_35_method_1_code 5 = .ok (.bipush 16, 2) := by decide +kernel
theorem s3_5 {rm : Room} {S : List Value} {H : AHeap} {Q : Option Value → AHeap → Prop} {l0 : Slot}  (h : W3 rm 7 [l0] (.int 16 :: S) (H) Q) : W3 rm 5 [l0] (S) H Q := W.bipush' d3_5 (by decide) h
theorem d3_7 : decode prog_35_method_1_code 7 = .ok (.newarray .long, 2) := by decide +kernel
theorem s3_7 {rm : Room} {S : List Value} {H : AHeap} {Q : Option Value → AHeap → Prop} {l0 : Slot} {n : Int32} (i N : Nat) (hn : ix n N) (hi : H.length = i) (hr : nok rm N = true) (h : W3 ⟨rm.frames, rm.cells - 1, rm.slots - N, rm.locals⟩ 9 [l0] (.ref i :: S) (H ++ [.inr (.long, List.replicate N (.long 0))]) Q) : W3 rm 7 [l0] (.int n :: S) H Q := W.newarray (ty := .long) (d := .long 0) d3_7 rfl (List.mem_of_getElem? (i := 5) rfl) rfl hn hi hr h
theorem d3_9 : decode prog_35_method_1_code 9 = .ok (.putfield 7, 3) := by decide +kernel
theorem s3_9 {rm : Room} {S : List Value} {H : AHeap} {Q : Option Value → AHeap → Prop} {l0 : Slot} {i : Nat} {f0 f1 : Value} {x : Nat} (hH : H[i]? = some (.inl (0, [f0, f1]))) (h : W3 rm 12 [l0] (S) (H.set i (.inl (0, [.ref x, f1]))) Q) : W3 rm 9 [l0] (.ref x :: .ref i :: S) H Q := W.putF (c := 0) (j := 0) kt d3_9 (host := "") (Or.inl (List.mem_of_getElem? (i := 18) rfl)) (Or.inl rfl) rfl rfl (Or.inl (List.mem_of_getElem? (i := 19) rfl)) rfl rfl hH h
theorem d3_12 : decode prog_35_method_1_code 12 = .ok (.return_, 1) := by decide +kernel
theorem s3_12 {rm : Room} {H : AHeap} {Q : Option Value → AHeap → Prop} {l0 : Slot} (hQ : Q none H) : W3 rm 12 [l0] [] H Q := W.ret_ d3_12 rfl hQ
theorem e4 {rm : Room} {H : AHeap} {Q : Option Value → AHeap → Prop} {a0 : Int64} (h : W4 rm 0 [.val (.long a0), .second] [] H Q) : M4 rm [.long a0] H Q := M.of pf4 rfl rfl h
theorem e4L {rm : Room} {H : AHeap} {Q : Option Value → AHeap → Prop} {L : List Slot} {as : List Value} (h : W4 rm 0 L [] H Q) (hl : ent as ++ List.replicate (2 - (ent as).length) .unset = L := by rfl) (hn : L.length = 2 := by rfl) : M4 rm as H Q := M.of pf4 hl hn h
theorem d4_0 : decode method_3_code 0 = .ok (.lload_n 0, 1) := by decide +kernel
theorem s4_0 {rm : Room} {S : List Value} {H : AHeap} {Q : Option Value → AHeap → Prop} {l1 : Slot} {x : Int64} (h : W4 rm 1 [.val (.long x), l1] (.long x :: S) (H) Q) : W4 rm 0 [.val (.long x), l1] (S) H Q := W.lload_n d4_0 rfl h
theorem d4_1 : decode method_3_code 1 = .ok (.bipush 32, 2) := by decide +kernel
theorem s4_1 {rm : Room} {S : List Value} {H : AHeap} {Q : Option Value → AHeap → Prop} {l0 l1 : Slot}  (h : W4 rm 3 [l0, l1] (.int 32 :: S) (H) Q) : W4 rm 1 [l0, l1] (S) H Q := W.bipush' d4_1 (by decide) h
theorem d4_3 : decode method_3_code 3 = .ok (.lushr, 1) := by decide +kernel
theorem s4_3 {rm : Room} {S : List Value} {H : AHeap} {Q : Option Value → AHeap → Prop} {l0 l1 : Slot} {x : Int64} {y : Int32} (h : W4 rm 4 [l0, l1] (.long (XT.ushrL x y) :: S) (H) Q) : W4 rm 3 [l0, l1] (.int y :: .long x :: S) H Q := W.lushr d4_3 h
theorem d4_4 : decode method_3_code 4 = .ok (.l2i, 1) := by decide +kernel
theorem s4_4 {rm : Room} {S : List Value} {H : AHeap} {Q : Option Value → AHeap → Prop} {l0 l1 : Slot} {x : Int64} (h : W4 rm 5 [l0, l1] (.int x.toInt32 :: S) (H) Q) : W4 rm 4 [l0, l1] (.long x :: S) H Q := W.l2i d4_4 h
theorem d4_5 : decode method_3_code 5 = .ok (.ireturn, 1) := by decide +kernel
theorem s4_5 {rm : Room} {S : List Value} {H : AHeap} {Q : Option Value → AHeap → Prop} {l0 l1 : Slot} {x : Int32} (hQ : Q (some (.int x)) H) : W4 rm 5 [l0, l1] (.int x :: S) H Q := W.ireturn d4_5 rfl hQ
theorem e5 {rm : Room} {H : AHeap} {Q : Option Value → AHeap → Prop} {a0 : Int64} (h : W5 rm 0 [.val (.long a0), .second] [] H Q) : M5 rm [.long a0] H Q := M.of pf5 rfl rfl h
theorem e5L {rm : Room} {H : AHeap} {Q : Option Value → AHeap → Prop} {L : List Slot} {as : List Value} (h : W5 rm 0 L [] H Q) (hl : ent as ++ List.replicate (2 - (ent as).length) .unset = L := by rfl) (hn : L.length = 2 := by rfl) : M5 rm as H Q := M.of pf5 hl hn h
theorem d5_0 : decode method_4_code 0 = .ok (.lload_n 0, 1) := by decide +kernel
theorem s5_0 {rm : Room} {S : List Value} {H : AHeap} {Q : Option Value → AHeap → Prop} {l1 : Slot} {x : Int64} (h : W5 rm 1 [.val (.long x), l1] (.long x :: S) (H) Q) : W5 rm 0 [.val (.long x), l1] (S) H Q := W.lload_n d5_0 rfl h
theorem d5_1 : decode method_4_code 1 = .ok (.ldc2_w 8, 3) := by decide +kernel
theorem s5_1 {rm : Room} {S : List Value} {H : AHeap} {Q : Option Value → AHeap → Prop} {l0 l1 : Slot}  (h : W5 rm 4 [l0, l1] (.long 4294967295 :: S) (H) Q) : W5 rm 1 [l0, l1] (S) H Q := W.ldcLong d5_1 (List.mem_of_getElem? (i := 26) rfl) h
theorem d5_4 : decode method_4_code 4 = .ok (.land, 1) := by decide +kernel
theorem s5_4 {rm : Room} {S : List Value} {H : AHeap} {Q : Option Value → AHeap → Prop} {l0 l1 : Slot} {x y : Int64} (h : W5 rm 5 [l0, l1] (.long (x &&& y) :: S) (H) Q) : W5 rm 4 [l0, l1] (.long y :: .long x :: S) H Q := W.land d5_4 h
theorem d5_5 : decode method_4_code 5 = .ok (.l2i, 1) := by decide +kernel
theorem s5_5 {rm : Room} {S : List Value} {H : AHeap} {Q : Option Value → AHeap → Prop} {l0 l1 : Slot} {x : Int64} (h : W5 rm 6 [l0, l1] (.int x.toInt32 :: S) (H) Q) : W5 rm 5 [l0, l1] (.long x :: S) H Q := W.l2i d5_5 h
theorem d5_6 : decode method_4_code 6 = .ok (.ireturn, 1) := by decide +kernel
theorem s5_6 {rm : Room} {S : List Value} {H : AHeap} {Q : Option Value → AHeap → Prop} {l0 l1 : Slot} {x : Int32} (hQ : Q (some (.int x)) H) : W5 rm 6 [l0, l1] (.int x :: S) H Q := W.ireturn d5_6 rfl hQ
theorem e6 {rm : Room} {H : AHeap} {Q : Option Value → AHeap → Prop} {a0 : Nat} {a1 : Int32} {a2 : Int32} (h : W6 rm 0 [.val (.ref a0), .val (.int a1), .val (.int a2), .unset, .unset, .unset] [] H Q) : M6 rm [.ref a0, .int a1, .int a2] H Q := M.of pf6 rfl rfl h
theorem e6L {rm : Room} {H : AHeap} {Q : Option Value → AHeap → Prop} {L : List Slot} {as : List Value} (h : W6 rm 0 L [] H Q) (hl : ent as ++ List.replicate (6 - (ent as).length) .unset = L := by rfl) (hn : L.length = 6 := by rfl) : M6 rm as H Q := M.of pf6 hl hn h
theorem d6_0 : decode prog_35_method_2_code 0 = .ok (.aload_n 0, 1) := by decide +kernel
theorem s6_0 {rm : Room} {S : List Value} {H : AHeap} {Q : Option Value → AHeap → Prop} {l1 l2 l3 l4 l5 : Slot} {i : Nat} (h : W6 rm 1 [.val (.ref i), l1, l2, l3, l4, l5] (.ref i :: S) (H) Q) : W6 rm 0 [.val (.ref i), l1, l2, l3, l4, l5] (S) H Q := W.aload_n d6_0 rfl rfl h
theorem s6_0n {rm : Room} {S : List Value} {H : AHeap} {Q : Option Value → AHeap → Prop} {l1 l2 l3 l4 l5 : Slot}  (h : W6 rm 1 [.val .null, l1, l2, l3, l4, l5] (.null :: S) (H) Q) : W6 rm 0 [.val .null, l1, l2, l3, l4, l5] (S) H Q := W.aload_n d6_0 rfl rfl h
theorem d6_1 : decode prog_35_method_2_code 1 = .ok (.getfield 13, 3) := by decide +kernel
theorem s6_1 {rm : Room} {S : List Value} {H : AHeap} {Q : Option Value → AHeap → Prop} {l0 l1 l2 l3 l4 l5 : Slot} {i : Nat} {f0 f1 : Value} (hH : H[i]? = some (.inl (0, [f0, f1]))) (h : W6 rm 4 [l0, l1, l2, l3, l4, l5] (f1 :: S) (H) Q) : W6 rm 1 [l0, l1, l2, l3, l4, l5] (.ref i :: S) H Q := W.getF (c := 0) (j := 1) d6_1 (host := "") (Or.inl (List.mem_of_getElem? (i := 32) rfl)) (Or.inl rfl) rfl rfl hH rfl h
theorem d6_4 : decode prog_35_method_2_code 4 = .ok (.aload_n 0, 1) := by decide +kernel
theorem s6_4 {rm : Room} {S : List Value} {H : AHeap} {Q : Option Value → AHeap → Prop} {l1 l2 l3 l4 l5 : Slot} {i : Nat} (h : W6 rm 5 [.val (.ref i), l1, l2, l3, l4, l5] (.ref i :: S) (H) Q) : W6 rm 4 [.val (.ref i), l1, l2, l3, l4, l5] (S) H Q := W.aload_n d6_4 rfl rfl h
theorem s6_4n {rm : Room} {S : List Value} {H : AHeap} {Q : Option Value → AHeap → Prop} {l1 l2 l3 l4 l5 : Slot}  (h : W6 rm 5 [.val .null, l1, l2, l3, l4, l5] (.null :: S) (H) Q) : W6 rm 4 [.val .null, l1, l2, l3, l4, l5] (S) H Q := W.aload_n d6_4 rfl rfl h
theorem d6_5 : decode prog_35_method_2_code 5 = .ok (.getfield 7, 3) := by decide +kernel
theorem s6_5 {rm : Room} {S : List Value} {H : AHeap} {Q : Option Value → AHeap → Prop} {l0 l1 l2 l3 l4 l5 : Slot} {i : Nat} {f0 f1 : Value} (hH : H[i]? = some (.inl (0, [f0, f1]))) (h : W6 rm 8 [l0, l1, l2, l3, l4, l5] (f0 :: S) (H) Q) : W6 rm 5 [l0, l1, l2, l3, l4, l5] (.ref i :: S) H Q := W.getF (c := 0) (j := 0) d6_5 (host := "") (Or.inl (List.mem_of_getElem? (i := 18) rfl)) (Or.inl rfl) rfl rfl hH rfl h
theorem d6_8 : decode prog_35_method_2_code 8 = .ok (.arraylength, 1) := by decide +kernel
theorem s6_8 {rm : Room} {S : List Value} {H : AHeap} {Q : Option Value → AHeap → Prop} {l0 l1 l2 l3 l4 l5 : Slot} {i : Nat} {ty : FieldType} {vs : List Value} (hH : H[i]? = some (.inr (ty, vs))) (h : W6 rm 9 [l0, l1, l2, l3, l4, l5] (.int (Int32.ofNat vs.length) :: S) (H) Q) : W6 rm 8 [l0, l1, l2, l3, l4, l5] (.ref i :: S) H Q := W.arraylength d6_8 hH h
theorem s6_8k {rm : Room} {S : List Value} {H : AHeap} {Q : Option Value → AHeap → Prop} {l0 l1 l2 l3 l4 l5 : Slot} {i : Nat} {ty : FieldType} {vs : List Value} (n : Int32) (hH : H[i]? = some (.inr (ty, vs))) (hn : Int32.ofNat vs.length = n) (h : W6 rm 9 [l0, l1, l2, l3, l4, l5] (.int n :: S) (H) Q) : W6 rm 8 [l0, l1, l2, l3, l4, l5] (.ref i :: S) H Q := W.arraylength d6_8 hH (by rw [hn]; exact h)
theorem d6_9 : decode prog_35_method_2_code 9 = .ok (.if_icmp .ne 20, 3) := by decide +kernel
theorem s6_9 {rm : Room} {S : List Value} {H : AHeap} {Q : Option Value → AHeap → Prop} {l0 l1 l2 l3 l4 l5 : Slot} {x y : Int32} (h1 : ¬ x = y → W6 rm 29 [l0, l1, l2, l3, l4, l5] S H Q) (h2 : x = y → W6 rm 12 [l0, l1, l2, l3, l4, l5] S H Q) : W6 rm 9 [l0, l1, l2, l3, l4, l5] (.int y :: .int x :: S) H Q := W.icmp d6_9 (by decide) (by decide) h1 h2
theorem d6_12 : decode prog_35_method_2_code 12 = .ok (.aload_n 0, 1) := by decide +kernel
theorem s6_12 {rm : Room} {S : List Value} {H : AHeap} {Q : Option Value → AHeap → Prop} {l1 l2 l3 l4 l5 : Slot} {i : Nat} (h : W6 rm 13 [.val (.ref i), l1, l2, l3, l4, l5] (.ref i :: S) (H) Q) : W6 rm 12 [.val (.ref i), l1, l2, l3, l4, l5] (S) H Q := W.aload_n d6_12 rfl rfl h
theorem s6_12n {rm : Room} {S : List Value} {H : AHeap} {Q : Option Value → AHeap → Prop} {l1 l2 l3 l4 l5 : Slot}  (h : W6 rm 13 [.val .null, l1, l2, l3, l4, l5] (.null :: S) (H) Q) : W6 rm 12 [.val .null, l1, l2, l3, l4, l5] (S) H Q := W.aload_n d6_12 rfl rfl h
theorem d6_13 : decode prog_35_method_2_code 13 = .ok (.aload_n 0, 1) := by decide +kernel
theorem s6_13 {rm : Room} {S : List Value} {H : AHeap} {Q : Option Value → AHeap → Prop} {l1 l2 l3 l4 l5 : Slot} {i : Nat} (h : W6 rm 14 [.val (.ref i), l1, l2, l3, l4, l5] (.ref i :: S) (H) Q) : W6 rm 13 [.val (.ref i), l1, l2, l3, l4, l5] (S) H Q := W.aload_n d6_13 rfl rfl h
theorem s6_13n {rm : Room} {S : List Value} {H : AHeap} {Q : Option Value → AHeap → Prop} {l1 l2 l3 l4 l5 : Slot}  (h : W6 rm 14 [.val .null, l1, l2, l3, l4, l5] (.null :: S) (H) Q) : W6 rm 13 [.val .null, l1, l2, l3, l4, l5] (S) H Q := W.aload_n d6_13 rfl rfl h
theorem d6_14 : decode prog_35_method_2_code 14 = .ok (.getfield 7, 3) := by decide +kernel
theorem s6_14 {rm : Room} {S : List Value} {H : AHeap} {Q : Option Value → AHeap → Prop} {l0 l1 l2 l3 l4 l5 : Slot} {i : Nat} {f0 f1 : Value} (hH : H[i]? = some (.inl (0, [f0, f1]))) (h : W6 rm 17 [l0, l1, l2, l3, l4, l5] (f0 :: S) (H) Q) : W6 rm 14 [l0, l1, l2, l3, l4, l5] (.ref i :: S) H Q := W.getF (c := 0) (j := 0) d6_14 (host := "") (Or.inl (List.mem_of_getElem? (i := 18) rfl)) (Or.inl rfl) rfl rfl hH rfl h
theorem d6_17 : decode prog_35_method_2_code 17 = .ok (.aload_n 0, 1) := by decide +kernel
theorem s6_17 {rm : Room} {S : List Value} {H : AHeap} {Q : Option Value → AHeap → Prop} {l1 l2 l3 l4 l5 : Slot} {i : Nat} (h : W6 rm 18 [.val (.ref i), l1, l2, l3, l4, l5] (.ref i :: S) (H) Q) : W6 rm 17 [.val (.ref i), l1, l2, l3, l4, l5] (S) H Q := W.aload_n d6_17 rfl rfl h
theorem s6_17n {rm : Room} {S : List Value} {H : AHeap} {Q : Option Value → AHeap → Prop} {l1 l2 l3 l4 l5 : Slot}  (h : W6 rm 18 [.val .null, l1, l2, l3, l4, l5] (.null :: S) (H) Q) : W6 rm 17 [.val .null, l1, l2, l3, l4, l5] (S) H Q := W.aload_n d6_17 rfl rfl h
theorem d6_18 : decode prog_35_method_2_code 18 = .ok (.getfield 13, 3) := by decide +kernel
theorem s6_18 {rm : Room} {S : List Value} {H : AHeap} {Q : Option Value → AHeap → Prop} {l0 l1 l2 l3 l4 l5 : Slot} {i : Nat} {f0 f1 : Value} (hH : H[i]? = some (.inl (0, [f0, f1]))) (h : W6 rm 21 [l0, l1, l2, l3, l4, l5] (f1 :: S) (H) Q) : W6 rm 18 [l0, l1, l2, l3, l4, l5] (.ref i :: S) H Q := W.getF (c := 0) (j := 1) d6_18 (host := "") (Or.inl (List.mem_of_getElem? (i := 32) rfl)) (Or.inl rfl) rfl rfl hH rfl h
theorem d6_21 : decode prog_35_method_2_code 21 = .ok (.iconst 2, 1) := by decide +kernel
theorem s6_21 {rm : Room} {S : List Value} {H : AHeap} {Q : Option Value → AHeap → Prop} {l0 l1 l2 l3 l4 l5 : Slot}  (h : W6 rm 22 [l0, l1, l2, l3, l4, l5] (.int 2 :: S) (H) Q) : W6 rm 21 [l0, l1, l2, l3, l4, l5] (S) H Q := W.iconst' d6_21 (by decide) h
theorem d6_22 : decode prog_35_method_2_code 22 = .ok (.imul, 1) := by decide +kernel
theorem s6_22 {rm : Room} {S : List Value} {H : AHeap} {Q : Option Value → AHeap → Prop} {l0 l1 l2 l3 l4 l5 : Slot} {x y : Int32} (h : W6 rm 23 [l0, l1, l2, l3, l4, l5] (.int (x * y) :: S) (H) Q) : W6 rm 22 [l0, l1, l2, l3, l4, l5] (.int y :: .int x :: S) H Q := W.imul d6_22 h
theorem d6_23 : decode prog_35_method_2_code 23 = .ok (.invokestatic 17, 3) := by decide +kernel
theorem d6_26 : decode prog_35_method_2_code 26 = .ok (.putfield 7, 3) := by decide +kernel
theorem s6_26 {rm : Room} {S : List Value} {H : AHeap} {Q : Option Value → AHeap → Prop} {l0 l1 l2 l3 l4 l5 : Slot} {i : Nat} {f0 f1 : Value} {x : Nat} (hH : H[i]? = some (.inl (0, [f0, f1]))) (h : W6 rm 29 [l0, l1, l2, l3, l4, l5] (S) (H.set i (.inl (0, [.ref x, f1]))) Q) : W6 rm 26 [l0, l1, l2, l3, l4, l5] (.ref x :: .ref i :: S) H Q := W.putF (c := 0) (j := 0) kt d6_26 (host := "") (Or.inl (List.mem_of_getElem? (i := 18) rfl)) (Or.inl rfl) rfl rfl (Or.inl (List.mem_of_getElem? (i := 19) rfl)) rfl rfl hH h
theorem d6_29 : decode prog_35_method_2_code 29 = .ok (.iload_n 1, 1) := by decide +kernel
theorem s6_29 {rm : Room} {S : List Value} {H : AHeap} {Q : Option Value → AHeap → Prop} {l0 l2 l3 l4 l5 : Slot} {x : Int32} (h : W6 rm 30 [l0, .val (.int x), l2, l3, l4, l5] (.int x :: S) (H) Q) : W6 rm 29 [l0, .val (.int x), l2, l3, l4, l5] (S) H Q := W.iload_n d6_29 rfl h
theorem d6_30 : decode prog_35_method_2_code 30 = .ok (.i2l, 1) := by decide +kernel
theorem s6_30 {rm : Room} {S : List Value} {H : AHeap} {Q : Option Value → AHeap → Prop} {l0 l1 l2 l3 l4 l5 : Slot} {x : Int32} (h : W6 rm 31 [l0, l1, l2, l3, l4, l5] (.long x.toInt64 :: S) (H) Q) : W6 rm 30 [l0, l1, l2, l3, l4, l5] (.int x :: S) H Q := W.i2l d6_30 h
theorem d6_31 : decode prog_35_method_2_code 31 = .ok (.bipush 32, 2) := by decide +kernel
theorem s6_31 {rm : Room} {S : List Value} {H : AHeap} {Q : Option Value → AHeap → Prop} {l0 l1 l2 l3 l4 l5 : Slot}  (h : W6 rm 33 [l0, l1, l2, l3, l4, l5] (.int 32 :: S) (H) Q) : W6 rm 31 [l0, l1, l2, l3, l4, l5] (S) H Q := W.bipush' d6_31 (by decide) h
theorem d6_33 : decode prog_35_method_2_code 33 = .ok (.lshl, 1) := by decide +kernel
theorem s6_33 {rm : Room} {S : List Value} {H : AHeap} {Q : Option Value → AHeap → Prop} {l0 l1 l2 l3 l4 l5 : Slot} {x : Int64} {y : Int32} (h : W6 rm 34 [l0, l1, l2, l3, l4, l5] (.long (x <<< (y.toInt64 &&& 63)) :: S) (H) Q) : W6 rm 33 [l0, l1, l2, l3, l4, l5] (.int y :: .long x :: S) H Q := W.lshl d6_33 h
theorem d6_34 : decode prog_35_method_2_code 34 = .ok (.iload_n 2, 1) := by decide +kernel
theorem s6_34 {rm : Room} {S : List Value} {H : AHeap} {Q : Option Value → AHeap → Prop} {l0 l1 l3 l4 l5 : Slot} {x : Int32} (h : W6 rm 35 [l0, l1, .val (.int x), l3, l4, l5] (.int x :: S) (H) Q) : W6 rm 34 [l0, l1, .val (.int x), l3, l4, l5] (S) H Q := W.iload_n d6_34 rfl h
theorem d6_35 : decode prog_35_method_2_code 35 = .ok (.i2l, 1) := by decide +kernel
theorem s6_35 {rm : Room} {S : List Value} {H : AHeap} {Q : Option Value → AHeap → Prop} {l0 l1 l2 l3 l4 l5 : Slot} {x : Int32} (h : W6 rm 36 [l0, l1, l2, l3, l4, l5] (.long x.toInt64 :: S) (H) Q) : W6 rm 35 [l0, l1, l2, l3, l4, l5] (.int x :: S) H Q := W.i2l d6_35 h
theorem d6_36 : decode prog_35_method_2_code 36 = .ok (.lor, 1) := by decide +kernel
theorem s6_36 {rm : Room} {S : List Value} {H : AHeap} {Q : Option Value → AHeap → Prop} {l0 l1 l2 l3 l4 l5 : Slot} {x y : Int64} (h : W6 rm 37 [l0, l1, l2, l3, l4, l5] (.long (x ||| y) :: S) (H) Q) : W6 rm 36 [l0, l1, l2, l3, l4, l5] (.long y :: .long x :: S) H Q := W.lor d6_36 h
theorem d6_37 : decode prog_35_method_2_code 37 = .ok (.lstore_n 3, 1) := by decide +kernel
theorem s6_37 {rm : Room} {S : List Value} {H : AHeap} {Q : Option Value → AHeap → Prop} {l0 l1 l2 l3 l4 l5 : Slot} {x : Int64} (ho : two l3 l4 = true) (h : W6 rm 38 [l0, l1, l2, .val (.long x), .second, l5] (S) (H) Q) : W6 rm 37 [l0, l1, l2, l3, l4, l5] (.long x :: S) H Q := W.lstore_n d6_37 rfl rfl ho h
theorem d6_38 : decode prog_35_method_2_code 38 = .ok (.aload_n 0, 1) := by decide +kernel
theorem s6_38 {rm : Room} {S : List Value} {H : AHeap} {Q : Option Value → AHeap → Prop} {l1 l2 l3 l4 l5 : Slot} {i : Nat} (h : W6 rm 39 [.val (.ref i), l1, l2, l3, l4, l5] (.ref i :: S) (H) Q) : W6 rm 38 [.val (.ref i), l1, l2, l3, l4, l5] (S) H Q := W.aload_n d6_38 rfl rfl h
theorem s6_38n {rm : Room} {S : List Value} {H : AHeap} {Q : Option Value → AHeap → Prop} {l1 l2 l3 l4 l5 : Slot}  (h : W6 rm 39 [.val .null, l1, l2, l3, l4, l5] (.null :: S) (H) Q) : W6 rm 38 [.val .null, l1, l2, l3, l4, l5] (S) H Q := W.aload_n d6_38 rfl rfl h
theorem d6_39 : decode prog_35_method_2_code 39 = .ok (.dup, 1) := by decide +kernel
theorem s6_39 {rm : Room} {S : List Value} {H : AHeap} {Q : Option Value → AHeap → Prop} {l0 l1 l2 l3 l4 l5 : Slot} {v : Value} (hc : v.category = 1) (h : W6 rm 40 [l0, l1, l2, l3, l4, l5] (v :: v :: S) (H) Q) : W6 rm 39 [l0, l1, l2, l3, l4, l5] (v :: S) H Q := W.dup d6_39 hc h
theorem d6_40 : decode prog_35_method_2_code 40 = .ok (.getfield 13, 3) := by decide +kernel
theorem s6_40 {rm : Room} {S : List Value} {H : AHeap} {Q : Option Value → AHeap → Prop} {l0 l1 l2 l3 l4 l5 : Slot} {i : Nat} {f0 f1 : Value} (hH : H[i]? = some (.inl (0, [f0, f1]))) (h : W6 rm 43 [l0, l1, l2, l3, l4, l5] (f1 :: S) (H) Q) : W6 rm 40 [l0, l1, l2, l3, l4, l5] (.ref i :: S) H Q := W.getF (c := 0) (j := 1) d6_40 (host := "") (Or.inl (List.mem_of_getElem? (i := 32) rfl)) (Or.inl rfl) rfl rfl hH rfl h
theorem d6_43 : decode prog_35_method_2_code 43 = .ok (.dup_x1, 1) := by decide +kernel
theorem s6_43 {rm : Room} {S : List Value} {H : AHeap} {Q : Option Value → AHeap → Prop} {l0 l1 l2 l3 l4 l5 : Slot} {v w : Value} (hc : v.category = 1) (hc' : w.category = 1) (h : W6 rm 44 [l0, l1, l2, l3, l4, l5] (v :: w :: v :: S) (H) Q) : W6 rm 43 [l0, l1, l2, l3, l4, l5] (v :: w :: S) H Q := W.dup_x1 d6_43 hc hc' h
theorem d6_44 : decode prog_35_method_2_code 44 = .ok (.iconst 1, 1) := by decide +kernel
theorem s6_44 {rm : Room} {S : List Value} {H : AHeap} {Q : Option Value → AHeap → Prop} {l0 l1 l2 l3 l4 l5 : Slot}  (h : W6 rm 45 [l0, l1, l2, l3, l4, l5] (.int 1 :: S) (H) Q) : W6 rm 44 [l0, l1, l2, l3, l4, l5] (S) H Q := W.iconst' d6_44 (by decide) h
theorem d6_45 : decode prog_35_method_2_code 45 = .ok (.iadd, 1) := by decide +kernel
theorem s6_45 {rm : Room} {S : List Value} {H : AHeap} {Q : Option Value → AHeap → Prop} {l0 l1 l2 l3 l4 l5 : Slot} {x y : Int32} (h : W6 rm 46 [l0, l1, l2, l3, l4, l5] (.int (x + y) :: S) (H) Q) : W6 rm 45 [l0, l1, l2, l3, l4, l5] (.int y :: .int x :: S) H Q := W.iadd d6_45 h
theorem d6_46 : decode prog_35_method_2_code 46 = .ok (.putfield 13, 3) := by decide +kernel
theorem s6_46 {rm : Room} {S : List Value} {H : AHeap} {Q : Option Value → AHeap → Prop} {l0 l1 l2 l3 l4 l5 : Slot} {i : Nat} {f0 f1 : Value} {x : Int32} (hH : H[i]? = some (.inl (0, [f0, f1]))) (h : W6 rm 49 [l0, l1, l2, l3, l4, l5] (S) (H.set i (.inl (0, [f0, .int x]))) Q) : W6 rm 46 [l0, l1, l2, l3, l4, l5] (.int x :: .ref i :: S) H Q := W.putF (c := 0) (j := 1) kt d6_46 (host := "") (Or.inl (List.mem_of_getElem? (i := 32) rfl)) (Or.inl rfl) rfl rfl (Or.inl (List.mem_of_getElem? (i := 33) rfl)) rfl rfl hH h
theorem d6_49 : decode prog_35_method_2_code 49 = .ok (.istore 5, 2) := by decide +kernel
theorem s6_49 {rm : Room} {S : List Value} {H : AHeap} {Q : Option Value → AHeap → Prop} {l0 l1 l2 l3 l4 l5 : Slot} {x : Int32} (ho : one l5 = true) (h : W6 rm 51 [l0, l1, l2, l3, l4, .val (.int x)] (S) (H) Q) : W6 rm 49 [l0, l1, l2, l3, l4, l5] (.int x :: S) H Q := W.istore d6_49 rfl ho h
theorem s6_49s {rm : Room} {S : List Value} {H : AHeap} {Q : Option Value → AHeap → Prop} {l0 l1 l2 l3 l4 : Slot} {x : Int32} (h : W6 rm 51 [l0, l1, l2, l3, .unset, .val (.int x)] (S) (H) Q) : W6 rm 49 [l0, l1, l2, l3, l4, .second] (.int x :: S) H Q := W.istoreS d6_49 rfl (by decide) h
theorem d6_51 : decode prog_35_method_2_code 51 = .ok (.iload 5, 2) := by decide +kernel
theorem s6_51 {rm : Room} {S : List Value} {H : AHeap} {Q : Option Value → AHeap → Prop} {l0 l1 l2 l3 l4 : Slot} {x : Int32} (h : W6 rm 53 [l0, l1, l2, l3, l4, .val (.int x)] (.int x :: S) (H) Q) : W6 rm 51 [l0, l1, l2, l3, l4, .val (.int x)] (S) H Q := W.iload d6_51 rfl h
theorem d6_53 : decode prog_35_method_2_code 53 = .ok (.ifCond .le 48, 3) := by decide +kernel
theorem s6_53 {rm : Room} {S : List Value} {H : AHeap} {Q : Option Value → AHeap → Prop} {l0 l1 l2 l3 l4 l5 : Slot} {x : Int32} (h1 : ¬ 0 < x → W6 rm 101 [l0, l1, l2, l3, l4, l5] S H Q) (h2 : 0 < x → W6 rm 56 [l0, l1, l2, l3, l4, l5] S H Q) : W6 rm 53 [l0, l1, l2, l3, l4, l5] (.int x :: S) H Q := W.ifc d6_53 (by decide) (by decide) h1 h2
theorem d6_56 : decode prog_35_method_2_code 56 = .ok (.aload_n 0, 1) := by decide +kernel
theorem s6_56 {rm : Room} {S : List Value} {H : AHeap} {Q : Option Value → AHeap → Prop} {l1 l2 l3 l4 l5 : Slot} {i : Nat} (h : W6 rm 57 [.val (.ref i), l1, l2, l3, l4, l5] (.ref i :: S) (H) Q) : W6 rm 56 [.val (.ref i), l1, l2, l3, l4, l5] (S) H Q := W.aload_n d6_56 rfl rfl h
theorem s6_56n {rm : Room} {S : List Value} {H : AHeap} {Q : Option Value → AHeap → Prop} {l1 l2 l3 l4 l5 : Slot}  (h : W6 rm 57 [.val .null, l1, l2, l3, l4, l5] (.null :: S) (H) Q) : W6 rm 56 [.val .null, l1, l2, l3, l4, l5] (S) H Q := W.aload_n d6_56 rfl rfl h
theorem d6_57 : decode prog_35_method_2_code 57 = .ok (.getfield 7, 3) := by decide +kernel
theorem s6_57 {rm : Room} {S : List Value} {H : AHeap} {Q : Option Value → AHeap → Prop} {l0 l1 l2 l3 l4 l5 : Slot} {i : Nat} {f0 f1 : Value} (hH : H[i]? = some (.inl (0, [f0, f1]))) (h : W6 rm 60 [l0, l1, l2, l3, l4, l5] (f0 :: S) (H) Q) : W6 rm 57 [l0, l1, l2, l3, l4, l5] (.ref i :: S) H Q := W.getF (c := 0) (j := 0) d6_57 (host := "") (Or.inl (List.mem_of_getElem? (i := 18) rfl)) (Or.inl rfl) rfl rfl hH rfl h
theorem d6_60 : decode prog_35_method_2_code 60 = .ok (.iload 5, 2) := by decide +kernel
theorem s6_60 {rm : Room} {S : List Value} {H : AHeap} {Q : Option Value → AHeap → Prop} {l0 l1 l2 l3 l4 : Slot} {x : Int32} (h : W6 rm 62 [l0, l1, l2, l3, l4, .val (.int x)] (.int x :: S) (H) Q) : W6 rm 60 [l0, l1, l2, l3, l4, .val (.int x)] (S) H Q := W.iload d6_60 rfl h
theorem d6_62 : decode prog_35_method_2_code 62 = .ok (.iconst 1, 1) := by decide +kernel
theorem s6_62 {rm : Room} {S : List Value} {H : AHeap} {Q : Option Value → AHeap → Prop} {l0 l1 l2 l3 l4 l5 : Slot}  (h : W6 rm 63 [l0, l1, l2, l3, l4, l5] (.int 1 :: S) (H) Q) : W6 rm 62 [l0, l1, l2, l3, l4, l5] (S) H Q := W.iconst' d6_62 (by decide) h
theorem d6_63 : decode prog_35_method_2_code 63 = .ok (.isub, 1) := by decide +kernel
theorem s6_63 {rm : Room} {S : List Value} {H : AHeap} {Q : Option Value → AHeap → Prop} {l0 l1 l2 l3 l4 l5 : Slot} {x y : Int32} (h : W6 rm 64 [l0, l1, l2, l3, l4, l5] (.int (x - y) :: S) (H) Q) : W6 rm 63 [l0, l1, l2, l3, l4, l5] (.int y :: .int x :: S) H Q := W.isub d6_63 h
theorem d6_64 : decode prog_35_method_2_code 64 = .ok (.iconst 2, 1) := by decide +kernel
theorem s6_64 {rm : Room} {S : List Value} {H : AHeap} {Q : Option Value → AHeap → Prop} {l0 l1 l2 l3 l4 l5 : Slot}  (h : W6 rm 65 [l0, l1, l2, l3, l4, l5] (.int 2 :: S) (H) Q) : W6 rm 64 [l0, l1, l2, l3, l4, l5] (S) H Q := W.iconst' d6_64 (by decide) h
theorem d6_65 : decode prog_35_method_2_code 65 = .ok (.idiv, 1) := by decide +kernel
theorem s6_65 {rm : Room} {S : List Value} {H : AHeap} {Q : Option Value → AHeap → Prop} {l0 l1 l2 l3 l4 l5 : Slot} {x y : Int32} (hy : y ≠ 0) (h : W6 rm 66 [l0, l1, l2, l3, l4, l5] (.int (x / y) :: S) (H) Q) : W6 rm 65 [l0, l1, l2, l3, l4, l5] (.int y :: .int x :: S) H Q := W.idiv d6_65 hy h
theorem d6_66 : decode prog_35_method_2_code 66 = .ok (.laload, 1) := by decide +kernel
theorem s6_66 {rm : Room} {S : List Value} {H : AHeap} {Q : Option Value → AHeap → Prop} {l0 l1 l2 l3 l4 l5 : Slot} {i : Nat} {j : Int32} {vs : List Value} {v : Value} (N : Nat) (hH : H[i]? = some (.inr (.long, vs))) (hj : ix j N) (hv : vs[N]? = some v) (h : W6 rm 67 [l0, l1, l2, l3, l4, l5] (v :: S) (H) Q) : W6 rm 66 [l0, l1, l2, l3, l4, l5] (.int j :: .ref i :: S) H Q := W.xaload (Or.inr (Or.inl ⟨rfl, rfl⟩)) d6_66 hH hj hv h
theorem d6_67 : decode prog_35_method_2_code 67 = .ok (.lload_n 3, 1) := by decide +kernel
theorem s6_67 {rm : Room} {S : List Value} {H : AHeap} {Q : Option Value → AHeap → Prop} {l0 l1 l2 l4 l5 : Slot} {x : Int64} (h : W6 rm 68 [l0, l1, l2, .val (.long x), l4, l5] (.long x :: S) (H) Q) : W6 rm 67 [l0, l1, l2, .val (.long x), l4, l5] (S) H Q := W.lload_n d6_67 rfl h
theorem d6_68 : decode prog_35_method_2_code 68 = .ok (.lcmp, 1) := by decide +kernel
theorem d6_69 : decode prog_35_method_2_code 69 = .ok (.ifCond .le 32, 3) := by decide +kernel
theorem s6_69 {rm : Room} {S : List Value} {H : AHeap} {Q : Option Value → AHeap → Prop} {l0 l1 l2 l3 l4 l5 : Slot} {x : Int32} (h1 : ¬ 0 < x → W6 rm 101 [l0, l1, l2, l3, l4, l5] S H Q) (h2 : 0 < x → W6 rm 72 [l0, l1, l2, l3, l4, l5] S H Q) : W6 rm 69 [l0, l1, l2, l3, l4, l5] (.int x :: S) H Q := W.ifc d6_69 (by decide) (by decide) h1 h2
theorem s6_68c {rm : Room} {S : List Value} {H : AHeap} {Q : Option Value → AHeap → Prop} {l0 l1 l2 l3 l4 l5 : Slot} {x y : Int64} (h1 : ¬ y < x → W6 rm 101 [l0, l1, l2, l3, l4, l5] S H Q) (h2 : y < x → W6 rm 72 [l0, l1, l2, l3, l4, l5] S H Q) : W6 rm 68 [l0, l1, l2, l3, l4, l5] (.long y :: .long x :: S) H Q := W.lcif d6_68 rfl d6_69 (by decide) (by decide) h1 h2
theorem d6_72 : decode prog_35_method_2_code 72 = .ok (.aload_n 0, 1) := by decide +kernel
theorem s6_72 {rm : Room} {S : List Value} {H : AHeap} {Q : Option Value → AHeap → Prop} {l1 l2 l3 l4 l5 : Slot} {i : Nat} (h : W6 rm 73 [.val (.ref i), l1, l2, l3, l4, l5] (.ref i :: S) (H) Q) : W6 rm 72 [.val (.ref i), l1, l2, l3, l4, l5] (S) H Q := W.aload_n d6_72 rfl rfl h
theorem s6_72n {rm : Room} {S : List Value} {H : AHeap} {Q : Option Value → AHeap → Prop} {l1 l2 l3 l4 l5 : Slot}  (h : W6 rm 73 [.val .null, l1, l2, l3, l4, l5] (.null :: S) (H) Q) : W6 rm 72 [.val .null, l1, l2, l3, l4, l5] (S) H Q := W.aload_n d6_72 rfl rfl h
theorem d6_73 : decode prog_35_method_2_code 73 = .ok (.getfield 7, 3) := by decide +kernel
theorem s6_73 {rm : Room} {S : List Value} {H : AHeap} {Q : Option Value → AHeap → Prop} {l0 l1 l2 l3 l4 l5 : Slot} {i : Nat} {f0 f1 : Value} (hH : H[i]? = some (.inl (0, [f0, f1]))) (h : W6 rm 76 [l0, l1, l2, l3, l4, l5] (f0 :: S) (H) Q) : W6 rm 73 [l0, l1, l2, l3, l4, l5] (.ref i :: S) H Q := W.getF (c := 0) (j := 0) d6_73 (host := "") (Or.inl (List.mem_of_getElem? (i := 18) rfl)) (Or.inl rfl) rfl rfl hH rfl h
theorem d6_76 : decode prog_35_method_2_code 76 = .ok (.iload 5, 2) := by decide +kernel
theorem s6_76 {rm : Room} {S : List Value} {H : AHeap} {Q : Option Value → AHeap → Prop} {l0 l1 l2 l3 l4 : Slot} {x : Int32} (h : W6 rm 78 [l0, l1, l2, l3, l4, .val (.int x)] (.int x :: S) (H) Q) : W6 rm 76 [l0, l1, l2, l3, l4, .val (.int x)] (S) H Q := W.iload d6_76 rfl h
theorem d6_78 : decode prog_35_method_2_code 78 = .ok (.aload_n 0, 1) := by decide +kernel
theorem s6_78 {rm : Room} {S : List Value} {H : AHeap} {Q : Option Value → AHeap → Prop} {l1 l2 l3 l4 l5 : Slot} {i : Nat} (h : W6 rm 79 [.val (.ref i), l1, l2, l3, l4, l5] (.ref i :: S) (H) Q) : W6 rm 78 [.val (.ref i), l1, l2, l3, l4, l5] (S) H Q := W.aload_n d6_78 rfl rfl h
theorem s6_78n {rm : Room} {S : List Value} {H : AHeap} {Q : Option Value → AHeap → Prop} {l1 l2 l3 l4 l5 : Slot}  (h : W6 rm 79 [.val .null, l1, l2, l3, l4, l5] (.null :: S) (H) Q) : W6 rm 78 [.val .null, l1, l2, l3, l4, l5] (S) H Q := W.aload_n d6_78 rfl rfl h
theorem d6_79 : decode prog_35_method_2_code 79 = .ok (.getfield 7, 3) := by decide +kernel
theorem s6_79 {rm : Room} {S : List Value} {H : AHeap} {Q : Option Value → AHeap → Prop} {l0 l1 l2 l3 l4 l5 : Slot} {i : Nat} {f0 f1 : Value} (hH : H[i]? = some (.inl (0, [f0, f1]))) (h : W6 rm 82 [l0, l1, l2, l3, l4, l5] (f0 :: S) (H) Q) : W6 rm 79 [l0, l1, l2, l3, l4, l5] (.ref i :: S) H Q := W.getF (c := 0) (j := 0) d6_79 (host := "") (Or.inl (List.mem_of_getElem? (i := 18) rfl)) (Or.inl rfl) rfl rfl hH rfl h
theorem d6_82 : decode prog_35_method_2_code 82 = .ok (.iload 5, 2) := by decide +kernel
theorem s6_82 {rm : Room} {S : List Value} {H : AHeap} {Q : Option Value → AHeap → Prop} {l0 l1 l2 l3 l4 : Slot} {x : Int32} (h : W6 rm 84 [l0, l1, l2, l3, l4, .val (.int x)] (.int x :: S) (H) Q) : W6 rm 82 [l0, l1, l2, l3, l4, .val (.int x)] (S) H Q := W.iload d6_82 rfl h
theorem d6_84 : decode prog_35_method_2_code 84 = .ok (.iconst 1, 1) := by decide +kernel
theorem s6_84 {rm : Room} {S : List Value} {H : AHeap} {Q : Option Value → AHeap → Prop} {l0 l1 l2 l3 l4 l5 : Slot}  (h : W6 rm 85 [l0, l1, l2, l3, l4, l5] (.int 1 :: S) (H) Q) : W6 rm 84 [l0, l1, l2, l3, l4, l5] (S) H Q := W.iconst' d6_84 (by decide) h
theorem d6_85 : decode prog_35_method_2_code 85 = .ok (.isub, 1) := by decide +kernel
theorem s6_85 {rm : Room} {S : List Value} {H : AHeap} {Q : Option Value → AHeap → Prop} {l0 l1 l2 l3 l4 l5 : Slot} {x y : Int32} (h : W6 rm 86 [l0, l1, l2, l3, l4, l5] (.int (x - y) :: S) (H) Q) : W6 rm 85 [l0, l1, l2, l3, l4, l5] (.int y :: .int x :: S) H Q := W.isub d6_85 h
theorem d6_86 : decode prog_35_method_2_code 86 = .ok (.iconst 2, 1) := by decide +kernel
theorem s6_86 {rm : Room} {S : List Value} {H : AHeap} {Q : Option Value → AHeap → Prop} {l0 l1 l2 l3 l4 l5 : Slot}  (h : W6 rm 87 [l0, l1, l2, l3, l4, l5] (.int 2 :: S) (H) Q) : W6 rm 86 [l0, l1, l2, l3, l4, l5] (S) H Q := W.iconst' d6_86 (by decide) h
theorem d6_87 : decode prog_35_method_2_code 87 = .ok (.idiv, 1) := by decide +kernel
theorem s6_87 {rm : Room} {S : List Value} {H : AHeap} {Q : Option Value → AHeap → Prop} {l0 l1 l2 l3 l4 l5 : Slot} {x y : Int32} (hy : y ≠ 0) (h : W6 rm 88 [l0, l1, l2, l3, l4, l5] (.int (x / y) :: S) (H) Q) : W6 rm 87 [l0, l1, l2, l3, l4, l5] (.int y :: .int x :: S) H Q := W.idiv d6_87 hy h
theorem d6_88 : decode prog_35_method_2_code 88 = .ok (.laload, 1) := by decide +kernel
theorem s6_88 {rm : Room} {S : List Value} {H : AHeap} {Q : Option Value → AHeap → Prop} {l0 l1 l2 l3 l4 l5 : Slot} {i : Nat} {j : Int32} {vs : List Value} {v : Value} (N : Nat) (hH : H[i]? = some (.inr (.long, vs))) (hj : ix j N) (hv : vs[N]? = some v) (h : W6 rm 89 [l0, l1, l2, l3, l4, l5] (v :: S) (H) Q) : W6 rm 88 [l0, l1, l2, l3, l4, l5] (.int j :: .ref i :: S) H Q := W.xaload (Or.inr (Or.inl ⟨rfl, rfl⟩)) d6_88 hH hj hv h
theorem d6_89 : decode prog_35_method_2_code 89 = .ok (.lastore, 1) := by decide +kernel
theorem s6_89 {rm : Room} {S : List Value} {H : AHeap} {Q : Option Value → AHeap → Prop} {l0 l1 l2 l3 l4 l5 : Slot} {i : Nat} {j : Int32} {x : Int64} {vs : List Value} (N : Nat) (hH : H[i]? = some (.inr (.long, vs))) (hj : ix j N) (hl : Nat.blt N vs.length = true) (h : W6 rm 90 [l0, l1, l2, l3, l4, l5] (S) (H.set i (.inr (.long, vs.set N (.long x)))) Q) : W6 rm 89 [l0, l1, l2, l3, l4, l5] (.long x :: .int j :: .ref i :: S) H Q := W.lastore d6_89 hH hj hl h
theorem d6_90 : decode prog_35_method_2_code 90 = .ok (.iload 5, 2) := by decide +kernel
theorem s6_90 {rm : Room} {S : List Value} {H : AHeap} {Q : Option Value → AHeap → Prop} {l0 l1 l2 l3 l4 : Slot} {x : Int32} (h : W6 rm 92 [l0, l1, l2, l3, l4, .val (.int x)] (.int x :: S) (H) Q) : W6 rm 90 [l0, l1, l2, l3, l4, .val (.int x)] (S) H Q := W.iload d6_90 rfl h
theorem d6_92 : decode prog_35_method_2_code 92 = .ok (.iconst 1, 1) := by decide +kernel
theorem s6_92 {rm : Room} {S : List Value} {H : AHeap} {Q : Option Value → AHeap → Prop} {l0 l1 l2 l3 l4 l5 : Slot}  (h : W6 rm 93 [l0, l1, l2, l3, l4, l5] (.int 1 :: S) (H) Q) : W6 rm 92 [l0, l1, l2, l3, l4, l5] (S) H Q := W.iconst' d6_92 (by decide) h
theorem d6_93 : decode prog_35_method_2_code 93 = .ok (.isub, 1) := by decide +kernel
theorem s6_93 {rm : Room} {S : List Value} {H : AHeap} {Q : Option Value → AHeap → Prop} {l0 l1 l2 l3 l4 l5 : Slot} {x y : Int32} (h : W6 rm 94 [l0, l1, l2, l3, l4, l5] (.int (x - y) :: S) (H) Q) : W6 rm 93 [l0, l1, l2, l3, l4, l5] (.int y :: .int x :: S) H Q := W.isub d6_93 h
theorem d6_94 : decode prog_35_method_2_code 94 = .ok (.iconst 2, 1) := by decide +kernel
theorem s6_94 {rm : Room} {S : List Value} {H : AHeap} {Q : Option Value → AHeap → Prop} {l0 l1 l2 l3 l4 l5 : Slot}  (h : W6 rm 95 [l0, l1, l2, l3, l4, l5] (.int 2 :: S) (H) Q) : W6 rm 94 [l0, l1, l2, l3, l4, l5] (S) H Q := W.iconst' d6_94 (by decide) h
theorem d6_95 : decode prog_35_method_2_code 95 = .ok (.idiv, 1) := by decide +kernel
theorem s6_95 {rm : Room} {S : List Value} {H : AHeap} {Q : Option Value → AHeap → Prop} {l0 l1 l2 l3 l4 l5 : Slot} {x y : Int32} (hy : y ≠ 0) (h : W6 rm 96 [l0, l1, l2, l3, l4, l5] (.int (x / y) :: S) (H) Q) : W6 rm 95 [l0, l1, l2, l3, l4, l5] (.int y :: .int x :: S) H Q := W.idiv d6_95 hy h
theorem d6_96 : decode prog_35_method_2_code 96 = .ok (.istore 5, 2) := by decide +kernel
theorem s6_96 {rm : Room} {S : List Value} {H : AHeap} {Q : Option Value → AHeap → Prop} {l0 l1 l2 l3 l4 l5 : Slot} {x : Int32} (ho : one l5 = true) (h : W6 rm 98 [l0, l1, l2, l3, l4, .val (.int x)] (S) (H) Q) : W6 rm 96 [l0, l1, l2, l3, l4, l5] (.int x :: S) H Q := W.istore d6_96 rfl ho h
theorem s6_96s {rm : Room} {S : List Value} {H : AHeap} {Q : Option Value → AHeap → Prop} {l0 l1 l2 l3 l4 : Slot} {x : Int32} (h : W6 rm 98 [l0, l1, l2, l3, .unset, .val (.int x)] (S) (H) Q) : W6 rm 96 [l0, l1, l2, l3, l4, .second] (.int x :: S) H Q := W.istoreS d6_96 rfl (by decide) h
theorem d6_98 : decode prog_35_method_2_code 98 = .ok (.goto (-47), 3) := by decide +kernel
theorem s6_98 {rm : Room} {S : List Value} {H : AHeap} {Q : Option Value → AHeap → Prop} {l0 l1 l2 l3 l4 l5 : Slot}  (h : W6 rm 51 [l0, l1, l2, l3, l4, l5] (S) (H) Q) : W6 rm 98 [l0, l1, l2, l3, l4, l5] (S) H Q := W.goto d6_98 (by decide) (by decide) h
theorem d6_101 : decode prog_35_method_2_code 101 = .ok (.aload_n 0, 1) := by decide +kernel
theorem s6_101 {rm : Room} {S : List Value} {H : AHeap} {Q : Option Value → AHeap → Prop} {l1 l2 l3 l4 l5 : Slot} {i : Nat} (h : W6 rm 102 [.val (.ref i), l1, l2, l3, l4, l5] (.ref i :: S) (H) Q) : W6 rm 101 [.val (.ref i), l1, l2, l3, l4, l5] (S) H Q := W.aload_n d6_101 rfl rfl h
theorem s6_101n {rm : Room} {S : List Value} {H : AHeap} {Q : Option Value → AHeap → Prop} {l1 l2 l3 l4 l5 : Slot}  (h : W6 rm 102 [.val .null, l1, l2, l3, l4, l5] (.null :: S) (H) Q) : W6 rm 101 [.val .null, l1, l2, l3, l4, l5] (S) H Q := W.aload_n d6_101 rfl rfl h
theorem d6_102 : decode prog_35_method_2_code 102 = .ok (.getfield 7, 3) := by decide +kernel
theorem s6_102 {rm : Room} {S : List Value} {H : AHeap} {Q : Option Value → AHeap → Prop} {l0 l1 l2 l3 l4 l5 : Slot} {i : Nat} {f0 f1 : Value} (hH : H[i]? = some (.inl (0, [f0, f1]))) (h : W6 rm 105 [l0, l1, l2, l3, l4, l5] (f0 :: S) (H) Q) : W6 rm 102 [l0, l1, l2, l3, l4, l5] (.ref i :: S) H Q := W.getF (c := 0) (j := 0) d6_102 (host := "") (Or.inl (List.mem_of_getElem? (i := 18) rfl)) (Or.inl rfl) rfl rfl hH rfl h
theorem d6_105 : decode prog_35_method_2_code 105 = .ok (.iload 5, 2) := by decide +kernel
theorem s6_105 {rm : Room} {S : List Value} {H : AHeap} {Q : Option Value → AHeap → Prop} {l0 l1 l2 l3 l4 : Slot} {x : Int32} (h : W6 rm 107 [l0, l1, l2, l3, l4, .val (.int x)] (.int x :: S) (H) Q) : W6 rm 105 [l0, l1, l2, l3, l4, .val (.int x)] (S) H Q := W.iload d6_105 rfl h
theorem d6_107 : decode prog_35_method_2_code 107 = .ok (.lload_n 3, 1) := by decide +kernel
theorem s6_107 {rm : Room} {S : List Value} {H : AHeap} {Q : Option Value → AHeap → Prop} {l0 l1 l2 l4 l5 : Slot} {x : Int64} (h : W6 rm 108 [l0, l1, l2, .val (.long x), l4, l5] (.long x :: S) (H) Q) : W6 rm 107 [l0, l1, l2, .val (.long x), l4, l5] (S) H Q := W.lload_n d6_107 rfl h
theorem d6_108 : decode prog_35_method_2_code 108 = .ok (.lastore, 1) := by decide +kernel
theorem s6_108 {rm : Room} {S : List Value} {H : AHeap} {Q : Option Value → AHeap → Prop} {l0 l1 l2 l3 l4 l5 : Slot} {i : Nat} {j : Int32} {x : Int64} {vs : List Value} (N : Nat) (hH : H[i]? = some (.inr (.long, vs))) (hj : ix j N) (hl : Nat.blt N vs.length = true) (h : W6 rm 109 [l0, l1, l2, l3, l4, l5] (S) (H.set i (.inr (.long, vs.set N (.long x)))) Q) : W6 rm 108 [l0, l1, l2, l3, l4, l5] (.long x :: .int j :: .ref i :: S) H Q := W.lastore d6_108 hH hj hl h
theorem d6_109 : decode prog_35_method_2_code 109 = .ok (.return_, 1) := by decide +kernel
theorem s6_109 {rm : Room} {H : AHeap} {Q : Option Value → AHeap → Prop} {l0 l1 l2 l3 l4 l5 : Slot} (hQ : Q none H) : W6 rm 109 [l0, l1, l2, l3, l4, l5] [] H Q := W.ret_ d6_109 rfl hQ
theorem e7 {rm : Room} {H : AHeap} {Q : Option Value → AHeap → Prop} {a0 : Nat} (h : W7 rm 0 [.val (.ref a0), .unset, .unset, .unset, .unset, .unset] [] H Q) : M7 rm [.ref a0] H Q := M.of pf7 rfl rfl h
theorem e7L {rm : Room} {H : AHeap} {Q : Option Value → AHeap → Prop} {L : List Slot} {as : List Value} (h : W7 rm 0 L [] H Q) (hl : ent as ++ List.replicate (6 - (ent as).length) .unset = L := by rfl) (hn : L.length = 6 := by rfl) : M7 rm as H Q := M.of pf7 hl hn h
theorem d7_0 : decode prog_35_method_5_code 0 = .ok (.aload_n 0, 1) := by decide +kernel
theorem s7_0 {rm : Room} {S : List Value} {H : AHeap} {Q : Option Value → AHeap → Prop} {l1 l2 l3 l4 l5 : Slot} {i : Nat} (h : W7 rm 1 [.val (.ref i), l1, l2, l3, l4, l5] (.ref i :: S) (H) Q) : W7 rm 0 [.val (.ref i), l1, l2, l3, l4, l5] (S) H Q := W.aload_n d7_0 rfl rfl h
theorem s7_0n {rm : Room} {S : List Value} {H : AHeap} {Q : Option Value → AHeap → Prop} {l1 l2 l3 l4 l5 : Slot}  (h : W7 rm 1 [.val .null, l1, l2, l3, l4, l5] (.null :: S) (H) Q) : W7 rm 0 [.val .null, l1, l2, l3, l4, l5] (S) H Q := W.aload_n d7_0 rfl rfl h
theorem d7_1 : decode prog_35_method_5_code 1 = .ok (.getfield 7, 3) := by decide +kernel
theorem s7_1 {rm : Room} {S : List Value} {H : AHeap} {Q : Option Value → AHeap → Prop} {l0 l1 l2 l3 l4 l5 : Slot} {i : Nat} {f0 f1 : Value} (hH : H[i]? = some (.inl (0, [f0, f1]))) (h : W7 rm 4 [l0, l1, l2, l3, l4, l5] (f0 :: S) (H) Q) : W7 rm 1 [l0, l1, l2, l3, l4, l5] (.ref i :: S) H Q := W.getF (c := 0) (j := 0) d7_1 (host := "") (Or.inl (List.mem_of_getElem? (i := 18) rfl)) (Or.inl rfl) rfl rfl hH rfl h
theorem d7_4 : decode prog_35_method_5_code 4 = .ok (.iconst 0, 1) := by decide +kernel
theorem s7_4 {rm : Room} {S : List Value} {H : AHeap} {Q : Option Value → AHeap → Prop} {l0 l1 l2 l3 l4 l5 : Slot}  (h : W7 rm 5 [l0, l1, l2, l3, l4, l5] (.int 0 :: S) (H) Q) : W7 rm 4 [l0, l1, l2, l3, l4, l5] (S) H Q := W.iconst' d7_4 (by decide) h
theorem d7_5 : decode prog_35_method_5_code 5 = .ok (.laload, 1) := by decide +kernel
theorem s7_5 {rm : Room} {S : List Value} {H : AHeap} {Q : Option Value → AHeap → Prop} {l0 l1 l2 l3 l4 l5 : Slot} {i : Nat} {j : Int32} {vs : List Value} {v : Value} (N : Nat) (hH : H[i]? = some (.inr (.long, vs))) (hj : ix j N) (hv : vs[N]? = some v) (h : W7 rm 6 [l0, l1, l2, l3, l4, l5] (v :: S) (H) Q) : W7 rm 5 [l0, l1, l2, l3, l4, l5] (.int j :: .ref i :: S) H Q := W.xaload (Or.inr (Or.inl ⟨rfl, rfl⟩)) d7_5 hH hj hv h
theorem d7_6 : decode prog_35_method_5_code 6 = .ok (.l2i, 1) := by decide +kernel
theorem s7_6 {rm : Room} {S : List Value} {H : AHeap} {Q : Option Value → AHeap → Prop} {l0 l1 l2 l3 l4 l5 : Slot} {x : Int64} (h : W7 rm 7 [l0, l1, l2, l3, l4, l5] (.int x.toInt32 :: S) (H) Q) : W7 rm 6 [l0, l1, l2, l3, l4, l5] (.long x :: S) H Q := W.l2i d7_6 h
theorem d7_7 : decode prog_35_method_5_code 7 = .ok (.istore_n 1, 1) := by decide +kernel
theorem s7_7 {rm : Room} {S : List Value} {H : AHeap} {Q : Option Value → AHeap → Prop} {l0 l1 l2 l3 l4 l5 : Slot} {x : Int32} (ho : one l1 = true) (h : W7 rm 8 [l0, .val (.int x), l2, l3, l4, l5] (S) (H) Q) : W7 rm 7 [l0, l1, l2, l3, l4, l5] (.int x :: S) H Q := W.istore_n d7_7 rfl ho h
theorem s7_7w {rm : Room} {S : List Value} {H : AHeap} {Q : Option Value → AHeap → Prop} {l0 l2 l3 l4 l5 : Slot} {w : Value} {x : Int32} (ho : w.category = 2) (h : W7 rm 8 [l0, .val (.int x), .unset, l3, l4, l5] (S) (H) Q) : W7 rm 7 [l0, .val w, l2, l3, l4, l5] (.int x :: S) H Q := W.istore_nW d7_7 rfl ho (Nat.le_of_ble_eq_true rfl) h
theorem s7_7s {rm : Room} {S : List Value} {H : AHeap} {Q : Option Value → AHeap → Prop} {l0 l2 l3 l4 l5 : Slot} {x : Int32} (h : W7 rm 8 [.unset, .val (.int x), l2, l3, l4, l5] (S) (H) Q) : W7 rm 7 [l0, .second, l2, l3, l4, l5] (.int x :: S) H Q := W.istore_nS d7_7 rfl (by decide) h
theorem d7_8 : decode prog_35_method_5_code 8 = .ok (.aload_n 0, 1) := by decide +kernel
theorem s7_8 {rm : Room} {S : List Value} {H : AHeap} {Q : Option Value → AHeap → Prop} {l1 l2 l3 l4 l5 : Slot} {i : Nat} (h : W7 rm 9 [.val (.ref i), l1, l2, l3, l4, l5] (.ref i :: S) (H) Q) : W7 rm 8 [.val (.ref i), l1, l2, l3, l4, l5] (S) H Q := W.aload_n d7_8 rfl rfl h
theorem s7_8n {rm : Room} {S : List Value} {H : AHeap} {Q : Option Value → AHeap → Prop} {l1 l2 l3 l4 l5 : Slot}  (h : W7 rm 9 [.val .null, l1, l2, l3, l4, l5] (.null :: S) (H) Q) : W7 rm 8 [.val .null, l1, l2, l3, l4, l5] (S) H Q := W.aload_n d7_8 rfl rfl h
theorem d7_9 : decode prog_35_method_5_code 9 = .ok (.getfield 7, 3) := by decide +kernel
theorem s7_9 {rm : Room} {S : List Value} {H : AHeap} {Q : Option Value → AHeap → Prop} {l0 l1 l2 l3 l4 l5 : Slot} {i : Nat} {f0 f1 : Value} (hH : H[i]? = some (.inl (0, [f0, f1]))) (h : W7 rm 12 [l0, l1, l2, l3, l4, l5] (f0 :: S) (H) Q) : W7 rm 9 [l0, l1, l2, l3, l4, l5] (.ref i :: S) H Q := W.getF (c := 0) (j := 0) d7_9 (host := "") (Or.inl (List.mem_of_getElem? (i := 18) rfl)) (Or.inl rfl) rfl rfl hH rfl h
theorem d7_12 : decode prog_35_method_5_code 12 = .ok (.aload_n 0, 1) := by decide +kernel
theorem s7_12 {rm : Room} {S : List Value} {H : AHeap} {Q : Option Value → AHeap → Prop} {l1 l2 l3 l4 l5 : Slot} {i : Nat} (h : W7 rm 13 [.val (.ref i), l1, l2, l3, l4, l5] (.ref i :: S) (H) Q) : W7 rm 12 [.val (.ref i), l1, l2, l3, l4, l5] (S) H Q := W.aload_n d7_12 rfl rfl h
theorem s7_12n {rm : Room} {S : List Value} {H : AHeap} {Q : Option Value → AHeap → Prop} {l1 l2 l3 l4 l5 : Slot}  (h : W7 rm 13 [.val .null, l1, l2, l3, l4, l5] (.null :: S) (H) Q) : W7 rm 12 [.val .null, l1, l2, l3, l4, l5] (S) H Q := W.aload_n d7_12 rfl rfl h
theorem d7_13 : decode prog_35_method_5_code 13 = .ok (.dup, 1) := by decide +kernel
theorem s7_13 {rm : Room} {S : List Value} {H : AHeap} {Q : Option Value → AHeap → Prop} {l0 l1 l2 l3 l4 l5 : Slot} {v : Value} (hc : v.category = 1) (h : W7 rm 14 [l0, l1, l2, l3, l4, l5] (v :: v :: S) (H) Q) : W7 rm 13 [l0, l1, l2, l3, l4, l5] (v :: S) H Q := W.dup d7_13 hc h
theorem d7_14 : decode prog_35_method_5_code 14 = .ok (.getfield 13, 3) := by decide +kernel
theorem s7_14 {rm : Room} {S : List Value} {H : AHeap} {Q : Option Value → AHeap → Prop} {l0 l1 l2 l3 l4 l5 : Slot} {i : Nat} {f0 f1 : Value} (hH : H[i]? = some (.inl (0, [f0, f1]))) (h : W7 rm 17 [l0, l1, l2, l3, l4, l5] (f1 :: S) (H) Q) : W7 rm 14 [l0, l1, l2, l3, l4, l5] (.ref i :: S) H Q := W.getF (c := 0) (j := 1) d7_14 (host := "") (Or.inl (List.mem_of_getElem? (i := 32) rfl)) (Or.inl rfl) rfl rfl hH rfl h
theorem d7_17 : decode prog_35_method_5_code 17 = .ok (.iconst 1, 1) := by decide +kernel
theorem s7_17 {rm : Room} {S : List Value} {H : AHeap} {Q : Option Value → AHeap → Prop} {l0 l1 l2 l3 l4 l5 : Slot}  (h : W7 rm 18 [l0, l1, l2, l3, l4, l5] (.int 1 :: S) (H) Q) : W7 rm 17 [l0, l1, l2, l3, l4, l5] (S) H Q := W.iconst' d7_17 (by decide) h
theorem d7_18 : decode prog_35_method_5_code 18 = .ok (.isub, 1) := by decide +kernel
theorem s7_18 {rm : Room} {S : List Value} {H : AHeap} {Q : Option Value → AHeap → Prop} {l0 l1 l2 l3 l4 l5 : Slot} {x y : Int32} (h : W7 rm 19 [l0, l1, l2, l3, l4, l5] (.int (x - y) :: S) (H) Q) : W7 rm 18 [l0, l1, l2, l3, l4, l5] (.int y :: .int x :: S) H Q := W.isub d7_18 h
theorem d7_19 : decode prog_35_method_5_code 19 = .ok (.dup_x1, 1) := by decide +kernel
theorem s7_19 {rm : Room} {S : List Value} {H : AHeap} {Q : Option Value → AHeap → Prop} {l0 l1 l2 l3 l4 l5 : Slot} {v w : Value} (hc : v.category = 1) (hc' : w.category = 1) (h : W7 rm 20 [l0, l1, l2, l3, l4, l5] (v :: w :: v :: S) (H) Q) : W7 rm 19 [l0, l1, l2, l3, l4, l5] (v :: w :: S) H Q := W.dup_x1 d7_19 hc hc' h
theorem d7_20 : decode prog_35_method_5_code 20 = .ok (.putfield 13, 3) := by decide +kernel
theorem s7_20 {rm : Room} {S : List Value} {H : AHeap} {Q : Option Value → AHeap → Prop} {l0 l1 l2 l3 l4 l5 : Slot} {i : Nat} {f0 f1 : Value} {x : Int32} (hH : H[i]? = some (.inl (0, [f0, f1]))) (h : W7 rm 23 [l0, l1, l2, l3, l4, l5] (S) (H.set i (.inl (0, [f0, .int x]))) Q) : W7 rm 20 [l0, l1, l2, l3, l4, l5] (.int x :: .ref i :: S) H Q := W.putF (c := 0) (j := 1) kt d7_20 (host := "") (Or.inl (List.mem_of_getElem? (i := 32) rfl)) (Or.inl rfl) rfl rfl (Or.inl (List.mem_of_getElem? (i := 33) rfl)) rfl rfl hH h
theorem d7_23 : decode prog_35_method_5_code 23 = .ok (.laload, 1) := by decide +kernel
theorem s7_23 {rm : Room} {S : List Value} {H : AHeap} {Q : Option Value → AHeap → Prop} {l0 l1 l2 l3 l4 l5 : Slot} {i : Nat} {j : Int32} {vs : List Value} {v : Value} (N : Nat) (hH : H[i]? = some (.inr (.long, vs))) (hj : ix j N) (hv : vs[N]? = some v) (h : W7 rm 24 [l0, l1, l2, l3, l4, l5] (v :: S) (H) Q) : W7 rm 23 [l0, l1, l2, l3, l4, l5] (.int j :: .ref i :: S) H Q := W.xaload (Or.inr (Or.inl ⟨rfl, rfl⟩)) d7_23 hH hj hv h
theorem d7_24 : decode prog_35_method_5_code 24 = .ok (.lstore_n 2, 1) := by decide +kernel
theorem s7_24 {rm : Room} {S : List Value} {H : AHeap} {Q : Option Value → AHeap → Prop} {l0 l1 l2 l3 l4 l5 : Slot} {x : Int64} (ho : two l2 l3 = true) (h : W7 rm 25 [l0, l1, .val (.long x), .second, l4, l5] (S) (H) Q) : W7 rm 24 [l0, l1, l2, l3, l4, l5] (.long x :: S) H Q := W.lstore_n d7_24 rfl rfl ho h
theorem d7_25 : decode prog_35_method_5_code 25 = .ok (.iconst 0, 1) := by decide +kernel
theorem s7_25 {rm : Room} {S : List Value} {H : AHeap} {Q : Option Value → AHeap → Prop} {l0 l1 l2 l3 l4 l5 : Slot}  (h : W7 rm 26 [l0, l1, l2, l3, l4, l5] (.int 0 :: S) (H) Q) : W7 rm 25 [l0, l1, l2, l3, l4, l5] (S) H Q := W.iconst' d7_25 (by decide) h
theorem d7_26 : decode prog_35_method_5_code 26 = .ok (.istore 4, 2) := by decide +kernel
theorem s7_26 {rm : Room} {S : List Value} {H : AHeap} {Q : Option Value → AHeap → Prop} {l0 l1 l2 l3 l4 l5 : Slot} {x : Int32} (ho : one l4 = true) (h : W7 rm 28 [l0, l1, l2, l3, .val (.int x), l5] (S) (H) Q) : W7 rm 26 [l0, l1, l2, l3, l4, l5] (.int x :: S) H Q := W.istore d7_26 rfl ho h
theorem s7_26w {rm : Room} {S : List Value} {H : AHeap} {Q : Option Value → AHeap → Prop} {l0 l1 l2 l3 l5 : Slot} {w : Value} {x : Int32} (ho : w.category = 2) (h : W7 rm 28 [l0, l1, l2, l3, .val (.int x), .unset] (S) (H) Q) : W7 rm 26 [l0, l1, l2, l3, .val w, l5] (.int x :: S) H Q := W.istoreW d7_26 rfl ho (Nat.le_of_ble_eq_true rfl) h
theorem s7_26s {rm : Room} {S : List Value} {H : AHeap} {Q : Option Value → AHeap → Prop} {l0 l1 l2 l3 l5 : Slot} {x : Int32} (h : W7 rm 28 [l0, l1, l2, .unset, .val (.int x), l5] (S) (H) Q) : W7 rm 26 [l0, l1, l2, l3, .second, l5] (.int x :: S) H Q := W.istoreS d7_26 rfl (by decide) h
theorem d7_28 : decode prog_35_method_5_code 28 = .ok (.iconst 2, 1) := by decide +kernel
theorem s7_28 {rm : Room} {S : List Value} {H : AHeap} {Q : Option Value → AHeap → Prop} {l0 l1 l2 l3 l4 l5 : Slot}  (h : W7 rm 29 [l0, l1, l2, l3, l4, l5] (.int 2 :: S) (H) Q) : W7 rm 28 [l0, l1, l2, l3, l4, l5] (S) H Q := W.iconst' d7_28 (by decide) h
theorem d7_29 : decode prog_35_method_5_code 29 = .ok (.iload 4, 2) := by decide +kernel
theorem s7_29 {rm : Room} {S : List Value} {H : AHeap} {Q : Option Value → AHeap → Prop} {l0 l1 l2 l3 l5 : Slot} {x : Int32} (h : W7 rm 31 [l0, l1, l2, l3, .val (.int x), l5] (.int x :: S) (H) Q) : W7 rm 29 [l0, l1, l2, l3, .val (.int x), l5] (S) H Q := W.iload d7_29 rfl h
theorem d7_31 : decode prog_35_method_5_code 31 = .ok (.imul, 1) := by decide +kernel
theorem s7_31 {rm : Room} {S : List Value} {H : AHeap} {Q : Option Value → AHeap → Prop} {l0 l1 l2 l3 l4 l5 : Slot} {x y : Int32} (h : W7 rm 32 [l0, l1, l2, l3, l4, l5] (.int (x * y) :: S) (H) Q) : W7 rm 31 [l0, l1, l2, l3, l4, l5] (.int y :: .int x :: S) H Q := W.imul d7_31 h
theorem d7_32 : decode prog_35_method_5_code 32 = .ok (.iconst 1, 1) := by decide +kernel
theorem s7_32 {rm : Room} {S : List Value} {H : AHeap} {Q : Option Value → AHeap → Prop} {l0 l1 l2 l3 l4 l5 : Slot}  (h : W7 rm 33 [l0, l1, l2, l3, l4, l5] (.int 1 :: S) (H) Q) : W7 rm 32 [l0, l1, l2, l3, l4, l5] (S) H Q := W.iconst' d7_32 (by decide) h
theorem d7_33 : decode prog_35_method_5_code 33 = .ok (.iadd, 1) := by decide +kernel
theorem s7_33 {rm : Room} {S : List Value} {H : AHeap} {Q : Option Value → AHeap → Prop} {l0 l1 l2 l3 l4 l5 : Slot} {x y : Int32} (h : W7 rm 34 [l0, l1, l2, l3, l4, l5] (.int (x + y) :: S) (H) Q) : W7 rm 33 [l0, l1, l2, l3, l4, l5] (.int y :: .int x :: S) H Q := W.iadd d7_33 h
theorem d7_34 : decode prog_35_method_5_code 34 = .ok (.aload_n 0, 1) := by decide +kernel
theorem s7_34 {rm : Room} {S : List Value} {H : AHeap} {Q : Option Value → AHeap → Prop} {l1 l2 l3 l4 l5 : Slot} {i : Nat} (h : W7 rm 35 [.val (.ref i), l1, l2, l3, l4, l5] (.ref i :: S) (H) Q) : W7 rm 34 [.val (.ref i), l1, l2, l3, l4, l5] (S) H Q := W.aload_n d7_34 rfl rfl h
theorem s7_34n {rm : Room} {S : List Value} {H : AHeap} {Q : Option Value → AHeap → Prop} {l1 l2 l3 l4 l5 : Slot}  (h : W7 rm 35 [.val .null, l1, l2, l3, l4, l5] (.null :: S) (H) Q) : W7 rm 34 [.val .null, l1, l2, l3, l4, l5] (S) H Q := W.aload_n d7_34 rfl rfl h
theorem d7_35 : decode prog_35_method_5_code 35 = .ok (.getfield 13, 3) := by decide +kernel
theorem s7_35 {rm : Room} {S : List Value} {H : AHeap} {Q : Option Value → AHeap → Prop} {l0 l1 l2 l3 l4 l5 : Slot} {i : Nat} {f0 f1 : Value} (hH : H[i]? = some (.inl (0, [f0, f1]))) (h : W7 rm 38 [l0, l1, l2, l3, l4, l5] (f1 :: S) (H) Q) : W7 rm 35 [l0, l1, l2, l3, l4, l5] (.ref i :: S) H Q := W.getF (c := 0) (j := 1) d7_35 (host := "") (Or.inl (List.mem_of_getElem? (i := 32) rfl)) (Or.inl rfl) rfl rfl hH rfl h
theorem d7_38 : decode prog_35_method_5_code 38 = .ok (.if_icmp .ge 81, 3) := by decide +kernel
theorem s7_38 {rm : Room} {S : List Value} {H : AHeap} {Q : Option Value → AHeap → Prop} {l0 l1 l2 l3 l4 l5 : Slot} {x y : Int32} (h1 : ¬ x < y → W7 rm 119 [l0, l1, l2, l3, l4, l5] S H Q) (h2 : x < y → W7 rm 41 [l0, l1, l2, l3, l4, l5] S H Q) : W7 rm 38 [l0, l1, l2, l3, l4, l5] (.int y :: .int x :: S) H Q := W.icmp d7_38 (by decide) (by decide) h1 h2
theorem d7_41 : decode prog_35_method_5_code 41 = .ok (.iconst 2, 1) := by decide +kernel
theorem s7_41 {rm : Room} {S : List Value} {H : AHeap} {Q : Option Value → AHeap → Prop} {l0 l1 l2 l3 l4 l5 : Slot}  (h : W7 rm 42 [l0, l1, l2, l3, l4, l5] (.int 2 :: S) (H) Q) : W7 rm 41 [l0, l1, l2, l3, l4, l5] (S) H Q := W.iconst' d7_41 (by decide) h
theorem d7_42 : decode prog_35_method_5_code 42 = .ok (.iload 4, 2) := by decide +kernel
theorem s7_42 {rm : Room} {S : List Value} {H : AHeap} {Q : Option Value → AHeap → Prop} {l0 l1 l2 l3 l5 : Slot} {x : Int32} (h : W7 rm 44 [l0, l1, l2, l3, .val (.int x), l5] (.int x :: S) (H) Q) : W7 rm 42 [l0, l1, l2, l3, .val (.int x), l5] (S) H Q := W.iload d7_42 rfl h
theorem d7_44 : decode prog_35_method_5_code 44 = .ok (.imul, 1) := by decide +kernel
theorem s7_44 {rm : Room} {S : List Value} {H : AHeap} {Q : Option Value → AHeap → Prop} {l0 l1 l2 l3 l4 l5 : Slot} {x y : Int32} (h : W7 rm 45 [l0, l1, l2, l3, l4, l5] (.int (x * y) :: S) (H) Q) : W7 rm 44 [l0, l1, l2, l3, l4, l5] (.int y :: .int x :: S) H Q := W.imul d7_44 h
theorem d7_45 : decode prog_35_method_5_code 45 = .ok (.iconst 1, 1) := by decide +kernel
theorem s7_45 {rm : Room} {S : List Value} {H : AHeap} {Q : Option Value → AHeap → Prop} {l0 l1 l2 l3 l4 l5 : Slot}  (h : W7 rm 46 [l0, l1, l2, l3, l4, l5] (.int 1 :: S) (H) Q) : W7 rm 45 [l0, l1, l2, l3, l4, l5] (S) H Q := W.iconst' d7_45 (by decide) h
theorem d7_46 : decode prog_35_method_5_code 46 = .ok (.iadd, 1) := by decide +kernel
theorem s7_46 {rm : Room} {S : List Value} {H : AHeap} {Q : Option Value → AHeap → Prop} {l0 l1 l2 l3 l4 l5 : Slot} {x y : Int32} (h : W7 rm 47 [l0, l1, l2, l3, l4, l5] (.int (x + y) :: S) (H) Q) : W7 rm 46 [l0, l1, l2, l3, l4, l5] (.int y :: .int x :: S) H Q := W.iadd d7_46 h
theorem d7_47 : decode prog_35_method_5_code 47 = .ok (.istore 5, 2) := by decide +kernel
theorem s7_47 {rm : Room} {S : List Value} {H : AHeap} {Q : Option Value → AHeap → Prop} {l0 l1 l2 l3 l4 l5 : Slot} {x : Int32} (ho : one l5 = true) (h : W7 rm 49 [l0, l1, l2, l3, l4, .val (.int x)] (S) (H) Q) : W7 rm 47 [l0, l1, l2, l3, l4, l5] (.int x :: S) H Q := W.istore d7_47 rfl ho h
theorem s7_47s {rm : Room} {S : List Value} {H : AHeap} {Q : Option Value → AHeap → Prop} {l0 l1 l2 l3 l4 : Slot} {x : Int32} (h : W7 rm 49 [l0, l1, l2, l3, .unset, .val (.int x)] (S) (H) Q) : W7 rm 47 [l0, l1, l2, l3, l4, .second] (.int x :: S) H Q := W.istoreS d7_47 rfl (by decide) h
theorem d7_49 : decode prog_35_method_5_code 49 = .ok (.iload 5, 2) := by decide +kernel
theorem s7_49 {rm : Room} {S : List Value} {H : AHeap} {Q : Option Value → AHeap → Prop} {l0 l1 l2 l3 l4 : Slot} {x : Int32} (h : W7 rm 51 [l0, l1, l2, l3, l4, .val (.int x)] (.int x :: S) (H) Q) : W7 rm 49 [l0, l1, l2, l3, l4, .val (.int x)] (S) H Q := W.iload d7_49 rfl h
theorem d7_51 : decode prog_35_method_5_code 51 = .ok (.iconst 1, 1) := by decide +kernel
theorem s7_51 {rm : Room} {S : List Value} {H : AHeap} {Q : Option Value → AHeap → Prop} {l0 l1 l2 l3 l4 l5 : Slot}  (h : W7 rm 52 [l0, l1, l2, l3, l4, l5] (.int 1 :: S) (H) Q) : W7 rm 51 [l0, l1, l2, l3, l4, l5] (S) H Q := W.iconst' d7_51 (by decide) h
theorem d7_52 : decode prog_35_method_5_code 52 = .ok (.iadd, 1) := by decide +kernel
theorem s7_52 {rm : Room} {S : List Value} {H : AHeap} {Q : Option Value → AHeap → Prop} {l0 l1 l2 l3 l4 l5 : Slot} {x y : Int32} (h : W7 rm 53 [l0, l1, l2, l3, l4, l5] (.int (x + y) :: S) (H) Q) : W7 rm 52 [l0, l1, l2, l3, l4, l5] (.int y :: .int x :: S) H Q := W.iadd d7_52 h
theorem d7_53 : decode prog_35_method_5_code 53 = .ok (.aload_n 0, 1) := by decide +kernel
theorem s7_53 {rm : Room} {S : List Value} {H : AHeap} {Q : Option Value → AHeap → Prop} {l1 l2 l3 l4 l5 : Slot} {i : Nat} (h : W7 rm 54 [.val (.ref i), l1, l2, l3, l4, l5] (.ref i :: S) (H) Q) : W7 rm 53 [.val (.ref i), l1, l2, l3, l4, l5] (S) H Q := W.aload_n d7_53 rfl rfl h
theorem s7_53n {rm : Room} {S : List Value} {H : AHeap} {Q : Option Value → AHeap → Prop} {l1 l2 l3 l4 l5 : Slot}  (h : W7 rm 54 [.val .null, l1, l2, l3, l4, l5] (.null :: S) (H) Q) : W7 rm 53 [.val .null, l1, l2, l3, l4, l5] (S) H Q := W.aload_n d7_53 rfl rfl h
theorem d7_54 : decode prog_35_method_5_code 54 = .ok (.getfield 13, 3) := by decide +kernel
theorem s7_54 {rm : Room} {S : List Value} {H : AHeap} {Q : Option Value → AHeap → Prop} {l0 l1 l2 l3 l4 l5 : Slot} {i : Nat} {f0 f1 : Value} (hH : H[i]? = some (.inl (0, [f0, f1]))) (h : W7 rm 57 [l0, l1, l2, l3, l4, l5] (f1 :: S) (H) Q) : W7 rm 54 [l0, l1, l2, l3, l4, l5] (.ref i :: S) H Q := W.getF (c := 0) (j := 1) d7_54 (host := "") (Or.inl (List.mem_of_getElem? (i := 32) rfl)) (Or.inl rfl) rfl rfl hH rfl h
theorem d7_57 : decode prog_35_method_5_code 57 = .ok (.if_icmp .ge 26, 3) := by decide +kernel
theorem s7_57 {rm : Room} {S : List Value} {H : AHeap} {Q : Option Value → AHeap → Prop} {l0 l1 l2 l3 l4 l5 : Slot} {x y : Int32} (h1 : ¬ x < y → W7 rm 83 [l0, l1, l2, l3, l4, l5] S H Q) (h2 : x < y → W7 rm 60 [l0, l1, l2, l3, l4, l5] S H Q) : W7 rm 57 [l0, l1, l2, l3, l4, l5] (.int y :: .int x :: S) H Q := W.icmp d7_57 (by decide) (by decide) h1 h2
theorem d7_60 : decode prog_35_method_5_code 60 = .ok (.aload_n 0, 1) := by decide +kernel
theorem s7_60 {rm : Room} {S : List Value} {H : AHeap} {Q : Option Value → AHeap → Prop} {l1 l2 l3 l4 l5 : Slot} {i : Nat} (h : W7 rm 61 [.val (.ref i), l1, l2, l3, l4, l5] (.ref i :: S) (H) Q) : W7 rm 60 [.val (.ref i), l1, l2, l3, l4, l5] (S) H Q := W.aload_n d7_60 rfl rfl h
theorem s7_60n {rm : Room} {S : List Value} {H : AHeap} {Q : Option Value → AHeap → Prop} {l1 l2 l3 l4 l5 : Slot}  (h : W7 rm 61 [.val .null, l1, l2, l3, l4, l5] (.null :: S) (H) Q) : W7 rm 60 [.val .null, l1, l2, l3, l4, l5] (S) H Q := W.aload_n d7_60 rfl rfl h
theorem d7_61 : decode prog_35_method_5_code 61 = .ok (.getfield 7, 3) := by decide +kernel
theorem s7_61 {rm : Room} {S : List Value} {H : AHeap} {Q : Option Value → AHeap → Prop} {l0 l1 l2 l3 l4 l5 : Slot} {i : Nat} {f0 f1 : Value} (hH : H[i]? = some (.inl (0, [f0, f1]))) (h : W7 rm 64 [l0, l1, l2, l3, l4, l5] (f0 :: S) (H) Q) : W7 rm 61 [l0, l1, l2, l3, l4, l5] (.ref i :: S) H Q := W.getF (c := 0) (j := 0) d7_61 (host := "") (Or.inl (List.mem_of_getElem? (i := 18) rfl)) (Or.inl rfl) rfl rfl hH rfl h
theorem d7_64 : decode prog_35_method_5_code 64 = .ok (.iload 5, 2) := by decide +kernel
theorem s7_64 {rm : Room} {S : List Value} {H : AHeap} {Q : Option Value → AHeap → Prop} {l0 l1 l2 l3 l4 : Slot} {x : Int32} (h : W7 rm 66 [l0, l1, l2, l3, l4, .val (.int x)] (.int x :: S) (H) Q) : W7 rm 64 [l0, l1, l2, l3, l4, .val (.int x)] (S) H Q := W.iload d7_64 rfl h
theorem d7_66 : decode prog_35_method_5_code 66 = .ok (.iconst 1, 1) := by decide +kernel
theorem s7_66 {rm : Room} {S : List Value} {H : AHeap} {Q : Option Value → AHeap → Prop} {l0 l1 l2 l3 l4 l5 : Slot}  (h : W7 rm 67 [l0, l1, l2, l3, l4, l5] (.int 1 :: S) (H) Q) : W7 rm 66 [l0, l1, l2, l3, l4, l5] (S) H Q := W.iconst' d7_66 (by decide) h
theorem d7_67 : decode prog_35_method_5_code 67 = .ok (.iadd, 1) := by decide +kernel
theorem s7_67 {rm : Room} {S : List Value} {H : AHeap} {Q : Option Value → AHeap → Prop} {l0 l1 l2 l3 l4 l5 : Slot} {x y : Int32} (h : W7 rm 68 [l0, l1, l2, l3, l4, l5] (.int (x + y) :: S) (H) Q) : W7 rm 67 [l0, l1, l2, l3, l4, l5] (.int y :: .int x :: S) H Q := W.iadd d7_67 h
theorem d7_68 : decode prog_35_method_5_code 68 = .ok (.laload, 1) := by decide +kernel
theorem s7_68 {rm : Room} {S : List Value} {H : AHeap} {Q : Option Value → AHeap → Prop} {l0 l1 l2 l3 l4 l5 : Slot} {i : Nat} {j : Int32} {vs : List Value} {v : Value} (N : Nat) (hH : H[i]? = some (.inr (.long, vs))) (hj : ix j N) (hv : vs[N]? = some v) (h : W7 rm 69 [l0, l1, l2, l3, l4, l5] (v :: S) (H) Q) : W7 rm 68 [l0, l1, l2, l3, l4, l5] (.int j :: .ref i :: S) H Q := W.xaload (Or.inr (Or.inl ⟨rfl, rfl⟩)) d7_68 hH hj hv h
theorem d7_69 : decode prog_35_method_5_code 69 = .ok (.aload_n 0, 1) := by decide +kernel
theorem s7_69 {rm : Room} {S : List Value} {H : AHeap} {Q : Option Value → AHeap → Prop} {l1 l2 l3 l4 l5 : Slot} {i : Nat} (h : W7 rm 70 [.val (.ref i), l1, l2, l3, l4, l5] (.ref i :: S) (H) Q) : W7 rm 69 [.val (.ref i), l1, l2, l3, l4, l5] (S) H Q := W.aload_n d7_69 rfl rfl h
theorem s7_69n {rm : Room} {S : List Value} {H : AHeap} {Q : Option Value → AHeap → Prop} {l1 l2 l3 l4 l5 : Slot}  (h : W7 rm 70 [.val .null, l1, l2, l3, l4, l5] (.null :: S) (H) Q) : W7 rm 69 [.val .null, l1, l2, l3, l4, l5] (S) H Q := W.aload_n d7_69 rfl rfl h
theorem d7_70 : decode prog_35_method_5_code 70 = .ok (.getfield 7, 3) := by decide +kernel
theorem s7_70 {rm : Room} {S : List Value} {H : AHeap} {Q : Option Value → AHeap → Prop} {l0 l1 l2 l3 l4 l5 : Slot} {i : Nat} {f0 f1 : Value} (hH : H[i]? = some (.inl (0, [f0, f1]))) (h : W7 rm 73 [l0, l1, l2, l3, l4, l5] (f0 :: S) (H) Q) : W7 rm 70 [l0, l1, l2, l3, l4, l5] (.ref i :: S) H Q := W.getF (c := 0) (j := 0) d7_70 (host := "") (Or.inl (List.mem_of_getElem? (i := 18) rfl)) (Or.inl rfl) rfl rfl hH rfl h
theorem d7_73 : decode prog_35_method_5_code 73 = .ok (.iload 5, 2) := by decide +kernel
theorem s7_73 {rm : Room} {S : List Value} {H : AHeap} {Q : Option Value → AHeap → Prop} {l0 l1 l2 l3 l4 : Slot} {x : Int32} (h : W7 rm 75 [l0, l1, l2, l3, l4, .val (.int x)] (.int x :: S) (H) Q) : W7 rm 73 [l0, l1, l2, l3, l4, .val (.int x)] (S) H Q := W.iload d7_73 rfl h
theorem d7_75 : decode prog_35_method_5_code 75 = .ok (.laload, 1) := by decide +kernel
theorem s7_75 {rm : Room} {S : List Value} {H : AHeap} {Q : Option Value → AHeap → Prop} {l0 l1 l2 l3 l4 l5 : Slot} {i : Nat} {j : Int32} {vs : List Value} {v : Value} (N : Nat) (hH : H[i]? = some (.inr (.long, vs))) (hj : ix j N) (hv : vs[N]? = some v) (h : W7 rm 76 [l0, l1, l2, l3, l4, l5] (v :: S) (H) Q) : W7 rm 75 [l0, l1, l2, l3, l4, l5] (.int j :: .ref i :: S) H Q := W.xaload (Or.inr (Or.inl ⟨rfl, rfl⟩)) d7_75 hH hj hv h
theorem d7_76 : decode prog_35_method_5_code 76 = .ok (.lcmp, 1) := by decide +kernel
theorem d7_77 : decode prog_35_method_5_code 77 = .ok (.ifCond .ge 6, 3) := by decide +kernel
theorem s7_77 {rm : Room} {S : List Value} {H : AHeap} {Q : Option Value → AHeap → Prop} {l0 l1 l2 l3 l4 l5 : Slot} {x : Int32} (h1 : ¬ x < 0 → W7 rm 83 [l0, l1, l2, l3, l4, l5] S H Q) (h2 : x < 0 → W7 rm 80 [l0, l1, l2, l3, l4, l5] S H Q) : W7 rm 77 [l0, l1, l2, l3, l4, l5] (.int x :: S) H Q := W.ifc d7_77 (by decide) (by decide) h1 h2
theorem s7_76c {rm : Room} {S : List Value} {H : AHeap} {Q : Option Value → AHeap → Prop} {l0 l1 l2 l3 l4 l5 : Slot} {x y : Int64} (h1 : ¬ x < y → W7 rm 83 [l0, l1, l2, l3, l4, l5] S H Q) (h2 : x < y → W7 rm 80 [l0, l1, l2, l3, l4, l5] S H Q) : W7 rm 76 [l0, l1, l2, l3, l4, l5] (.long y :: .long x :: S) H Q := W.lcif d7_76 rfl d7_77 (by decide) (by decide) h1 h2
theorem d7_80 : decode prog_35_method_5_code 80 = .ok (.iinc 5 1, 3) := by decide +kernel
theorem s7_80 {rm : Room} {S : List Value} {H : AHeap} {Q : Option Value → AHeap → Prop} {l0 l1 l2 l3 l4 : Slot} {x : Int32} (h : W7 rm 83 [l0, l1, l2, l3, l4, .val (.int (x + 1))] (S) (H) Q) : W7 rm 80 [l0, l1, l2, l3, l4, .val (.int x)] (S) H Q := W.iinc d7_80 (by decide) rfl h
theorem d7_83 : decode prog_35_method_5_code 83 = .ok (.aload_n 0, 1) := by decide +kernel
theorem s7_83 {rm : Room} {S : List Value} {H : AHeap} {Q : Option Value → AHeap → Prop} {l1 l2 l3 l4 l5 : Slot} {i : Nat} (h : W7 rm 84 [.val (.ref i), l1, l2, l3, l4, l5] (.ref i :: S) (H) Q) : W7 rm 83 [.val (.ref i), l1, l2, l3, l4, l5] (S) H Q := W.aload_n d7_83 rfl rfl h
theorem s7_83n {rm : Room} {S : List Value} {H : AHeap} {Q : Option Value → AHeap → Prop} {l1 l2 l3 l4 l5 : Slot}  (h : W7 rm 84 [.val .null, l1, l2, l3, l4, l5] (.null :: S) (H) Q) : W7 rm 83 [.val .null, l1, l2, l3, l4, l5] (S) H Q := W.aload_n d7_83 rfl rfl h
theorem d7_84 : decode prog_35_method_5_code 84 = .ok (.getfield 7, 3) := by decide +kernel
theorem s7_84 {rm : Room} {S : List Value} {H : AHeap} {Q : Option Value → AHeap → Prop} {l0 l1 l2 l3 l4 l5 : Slot} {i : Nat} {f0 f1 : Value} (hH : H[i]? = some (.inl (0, [f0, f1]))) (h : W7 rm 87 [l0, l1, l2, l3, l4, l5] (f0 :: S) (H) Q) : W7 rm 84 [l0, l1, l2, l3, l4, l5] (.ref i :: S) H Q := W.getF (c := 0) (j := 0) d7_84 (host := "") (Or.inl (List.mem_of_getElem? (i := 18) rfl)) (Or.inl rfl) rfl rfl hH rfl h
theorem d7_87 : decode prog_35_method_5_code 87 = .ok (.iload 5, 2) := by decide +kernel
theorem s7_87 {rm : Room} {S : List Value} {H : AHeap} {Q : Option Value → AHeap → Prop} {l0 l1 l2 l3 l4 : Slot} {x : Int32} (h : W7 rm 89 [l0, l1, l2, l3, l4, .val (.int x)] (.int x :: S) (H) Q) : W7 rm 87 [l0, l1, l2, l3, l4, .val (.int x)] (S) H Q := W.iload d7_87 rfl h
theorem d7_89 : decode prog_35_method_5_code 89 = .ok (.laload, 1) := by decide +kernel
theorem s7_89 {rm : Room} {S : List Value} {H : AHeap} {Q : Option Value → AHeap → Prop} {l0 l1 l2 l3 l4 l5 : Slot} {i : Nat} {j : Int32} {vs : List Value} {v : Value} (N : Nat) (hH : H[i]? = some (.inr (.long, vs))) (hj : ix j N) (hv : vs[N]? = some v) (h : W7 rm 90 [l0, l1, l2, l3, l4, l5] (v :: S) (H) Q) : W7 rm 89 [l0, l1, l2, l3, l4, l5] (.int j :: .ref i :: S) H Q := W.xaload (Or.inr (Or.inl ⟨rfl, rfl⟩)) d7_89 hH hj hv h
theorem d7_90 : decode prog_35_method_5_code 90 = .ok (.lload_n 2, 1) := by decide +kernel
theorem s7_90 {rm : Room} {S : List Value} {H : AHeap} {Q : Option Value → AHeap → Prop} {l0 l1 l3 l4 l5 : Slot} {x : Int64} (h : W7 rm 91 [l0, l1, .val (.long x), l3, l4, l5] (.long x :: S) (H) Q) : W7 rm 90 [l0, l1, .val (.long x), l3, l4, l5] (S) H Q := W.lload_n d7_90 rfl h
theorem d7_91 : decode prog_35_method_5_code 91 = .ok (.lcmp, 1) := by decide +kernel
theorem d7_92 : decode prog_35_method_5_code 92 = .ok (.ifCond .lt 6, 3) := by decide +kernel
theorem s7_92 {rm : Room} {S : List Value} {H : AHeap} {Q : Option Value → AHeap → Prop} {l0 l1 l2 l3 l4 l5 : Slot} {x : Int32} (h1 : x < 0 → W7 rm 98 [l0, l1, l2, l3, l4, l5] S H Q) (h2 : ¬ x < 0 → W7 rm 95 [l0, l1, l2, l3, l4, l5] S H Q) : W7 rm 92 [l0, l1, l2, l3, l4, l5] (.int x :: S) H Q := W.ifc d7_92 (by decide) (by decide) h1 h2
theorem s7_91c {rm : Room} {S : List Value} {H : AHeap} {Q : Option Value → AHeap → Prop} {l0 l1 l2 l3 l4 l5 : Slot} {x y : Int64} (h1 : x < y → W7 rm 98 [l0, l1, l2, l3, l4, l5] S H Q) (h2 : ¬ x < y → W7 rm 95 [l0, l1, l2, l3, l4, l5] S H Q) : W7 rm 91 [l0, l1, l2, l3, l4, l5] (.long y :: .long x :: S) H Q := W.lcif d7_91 rfl d7_92 (by decide) (by decide) h1 h2
theorem d7_95 : decode prog_35_method_5_code 95 = .ok (.goto 24, 3) := by decide +kernel
theorem s7_95 {rm : Room} {S : List Value} {H : AHeap} {Q : Option Value → AHeap → Prop} {l0 l1 l2 l3 l4 l5 : Slot}  (h : W7 rm 119 [l0, l1, l2, l3, l4, l5] (S) (H) Q) : W7 rm 95 [l0, l1, l2, l3, l4, l5] (S) H Q := W.goto d7_95 (by decide) (by decide) h
theorem d7_98 : decode prog_35_method_5_code 98 = .ok (.aload_n 0, 1) := by decide +kernel
theorem s7_98 {rm : Room} {S : List Value} {H : AHeap} {Q : Option Value → AHeap → Prop} {l1 l2 l3 l4 l5 : Slot} {i : Nat} (h : W7 rm 99 [.val (.ref i), l1, l2, l3, l4, l5] (.ref i :: S) (H) Q) : W7 rm 98 [.val (.ref i), l1, l2, l3, l4, l5] (S) H Q := W.aload_n d7_98 rfl rfl h
theorem s7_98n {rm : Room} {S : List Value} {H : AHeap} {Q : Option Value → AHeap → Prop} {l1 l2 l3 l4 l5 : Slot}  (h : W7 rm 99 [.val .null, l1, l2, l3, l4, l5] (.null :: S) (H) Q) : W7 rm 98 [.val .null, l1, l2, l3, l4, l5] (S) H Q := W.aload_n d7_98 rfl rfl h
theorem d7_99 : decode prog_35_method_5_code 99 = .ok (.getfield 7, 3) := by decide +kernel
theorem s7_99 {rm : Room} {S : List Value} {H : AHeap} {Q : Option Value → AHeap → Prop} {l0 l1 l2 l3 l4 l5 : Slot} {i : Nat} {f0 f1 : Value} (hH : H[i]? = some (.inl (0, [f0, f1]))) (h : W7 rm 102 [l0, l1, l2, l3, l4, l5] (f0 :: S) (H) Q) : W7 rm 99 [l0, l1, l2, l3, l4, l5] (.ref i :: S) H Q := W.getF (c := 0) (j := 0) d7_99 (host := "") (Or.inl (List.mem_of_getElem? (i := 18) rfl)) (Or.inl rfl) rfl rfl hH rfl h
theorem d7_102 : decode prog_35_method_5_code 102 = .ok (.iload 4, 2) := by decide +kernel
theorem s7_102 {rm : Room} {S : List Value} {H : AHeap} {Q : Option Value → AHeap → Prop} {l0 l1 l2 l3 l5 : Slot} {x : Int32} (h : W7 rm 104 [l0, l1, l2, l3, .val (.int x), l5] (.int x :: S) (H) Q) : W7 rm 102 [l0, l1, l2, l3, .val (.int x), l5] (S) H Q := W.iload d7_102 rfl h
theorem d7_104 : decode prog_35_method_5_code 104 = .ok (.aload_n 0, 1) := by decide +kernel
theorem s7_104 {rm : Room} {S : List Value} {H : AHeap} {Q : Option Value → AHeap → Prop} {l1 l2 l3 l4 l5 : Slot} {i : Nat} (h : W7 rm 105 [.val (.ref i), l1, l2, l3, l4, l5] (.ref i :: S) (H) Q) : W7 rm 104 [.val (.ref i), l1, l2, l3, l4, l5] (S) H Q := W.aload_n d7_104 rfl rfl h
theorem s7_104n {rm : Room} {S : List Value} {H : AHeap} {Q : Option Value → AHeap → Prop} {l1 l2 l3 l4 l5 : Slot}  (h : W7 rm 105 [.val .null, l1, l2, l3, l4, l5] (.null :: S) (H) Q) : W7 rm 104 [.val .null, l1, l2, l3, l4, l5] (S) H Q := W.aload_n d7_104 rfl rfl h
theorem d7_105 : decode prog_35_method_5_code 105 = .ok (.getfield 7, 3) := by decide +kernel
theorem s7_105 {rm : Room} {S : List Value} {H : AHeap} {Q : Option Value → AHeap → Prop} {l0 l1 l2 l3 l4 l5 : Slot} {i : Nat} {f0 f1 : Value} (hH : H[i]? = some (.inl (0, [f0, f1]))) (h : W7 rm 108 [l0, l1, l2, l3, l4, l5] (f0 :: S) (H) Q) : W7 rm 105 [l0, l1, l2, l3, l4, l5] (.ref i :: S) H Q := W.getF (c := 0) (j := 0) d7_105 (host := "") (Or.inl (List.mem_of_getElem? (i := 18) rfl)) (Or.inl rfl) rfl rfl hH rfl h
theorem d7_108 : decode prog_35_method_5_code 108 = .ok (.iload 5, 2) := by decide +kernel
theorem s7_108 {rm : Room} {S : List Value} {H : AHeap} {Q : Option Value → AHeap → Prop} {l0 l1 l2 l3 l4 : Slot} {x : Int32} (h : W7 rm 110 [l0, l1, l2, l3, l4, .val (.int x)] (.int x :: S) (H) Q) : W7 rm 108 [l0, l1, l2, l3, l4, .val (.int x)] (S) H Q := W.iload d7_108 rfl h
theorem d7_110 : decode prog_35_method_5_code 110 = .ok (.laload, 1) := by decide +kernel
theorem s7_110 {rm : Room} {S : List Value} {H : AHeap} {Q : Option Value → AHeap → Prop} {l0 l1 l2 l3 l4 l5 : Slot} {i : Nat} {j : Int32} {vs : List Value} {v : Value} (N : Nat) (hH : H[i]? = some (.inr (.long, vs))) (hj : ix j N) (hv : vs[N]? = some v) (h : W7 rm 111 [l0, l1, l2, l3, l4, l5] (v :: S) (H) Q) : W7 rm 110 [l0, l1, l2, l3, l4, l5] (.int j :: .ref i :: S) H Q := W.xaload (Or.inr (Or.inl ⟨rfl, rfl⟩)) d7_110 hH hj hv h
theorem d7_111 : decode prog_35_method_5_code 111 = .ok (.lastore, 1) := by decide +kernel
theorem s7_111 {rm : Room} {S : List Value} {H : AHeap} {Q : Option Value → AHeap → Prop} {l0 l1 l2 l3 l4 l5 : Slot} {i : Nat} {j : Int32} {x : Int64} {vs : List Value} (N : Nat) (hH : H[i]? = some (.inr (.long, vs))) (hj : ix j N) (hl : Nat.blt N vs.length = true) (h : W7 rm 112 [l0, l1, l2, l3, l4, l5] (S) (H.set i (.inr (.long, vs.set N (.long x)))) Q) : W7 rm 111 [l0, l1, l2, l3, l4, l5] (.long x :: .int j :: .ref i :: S) H Q := W.lastore d7_111 hH hj hl h
theorem d7_112 : decode prog_35_method_5_code 112 = .ok (.iload 5, 2) := by decide +kernel
theorem s7_112 {rm : Room} {S : List Value} {H : AHeap} {Q : Option Value → AHeap → Prop} {l0 l1 l2 l3 l4 : Slot} {x : Int32} (h : W7 rm 114 [l0, l1, l2, l3, l4, .val (.int x)] (.int x :: S) (H) Q) : W7 rm 112 [l0, l1, l2, l3, l4, .val (.int x)] (S) H Q := W.iload d7_112 rfl h
theorem d7_114 : decode prog_35_method_5_code 114 = .ok (.istore 4, 2) := by decide +kernel
theorem s7_114 {rm : Room} {S : List Value} {H : AHeap} {Q : Option Value → AHeap → Prop} {l0 l1 l2 l3 l4 l5 : Slot} {x : Int32} (ho : one l4 = true) (h : W7 rm 116 [l0, l1, l2, l3, .val (.int x), l5] (S) (H) Q) : W7 rm 114 [l0, l1, l2, l3, l4, l5] (.int x :: S) H Q := W.istore d7_114 rfl ho h
theorem s7_114w {rm : Room} {S : List Value} {H : AHeap} {Q : Option Value → AHeap → Prop} {l0 l1 l2 l3 l5 : Slot} {w : Value} {x : Int32} (ho : w.category = 2) (h : W7 rm 116 [l0, l1, l2, l3, .val (.int x), .unset] (S) (H) Q) : W7 rm 114 [l0, l1, l2, l3, .val w, l5] (.int x :: S) H Q := W.istoreW d7_114 rfl ho (Nat.le_of_ble_eq_true rfl) h
theorem s7_114s {rm : Room} {S : List Value} {H : AHeap} {Q : Option Value → AHeap → Prop} {l0 l1 l2 l3 l5 : Slot} {x : Int32} (h : W7 rm 116 [l0, l1, l2, .unset, .val (.int x), l5] (S) (H) Q) : W7 rm 114 [l0, l1, l2, l3, .second, l5] (.int x :: S) H Q := W.istoreS d7_114 rfl (by decide) h
theorem d7_116 : decode prog_35_method_5_code 116 = .ok (.goto (-88), 3) := by decide +kernel
theorem s7_116 {rm : Room} {S : List Value} {H : AHeap} {Q : Option Value → AHeap → Prop} {l0 l1 l2 l3 l4 l5 : Slot}  (h : W7 rm 28 [l0, l1, l2, l3, l4, l5] (S) (H) Q) : W7 rm 116 [l0, l1, l2, l3, l4, l5] (S) H Q := W.goto d7_116 (by decide) (by decide) h
theorem d7_119 : decode prog_35_method_5_code 119 = .ok (.aload_n 0, 1) := by decide +kernel
theorem s7_119 {rm : Room} {S : List Value} {H : AHeap} {Q : Option Value → AHeap → Prop} {l1 l2 l3 l4 l5 : Slot} {i : Nat} (h : W7 rm 120 [.val (.ref i), l1, l2, l3, l4, l5] (.ref i :: S) (H) Q) : W7 rm 119 [.val (.ref i), l1, l2, l3, l4, l5] (S) H Q := W.aload_n d7_119 rfl rfl h
theorem s7_119n {rm : Room} {S : List Value} {H : AHeap} {Q : Option Value → AHeap → Prop} {l1 l2 l3 l4 l5 : Slot}  (h : W7 rm 120 [.val .null, l1, l2, l3, l4, l5] (.null :: S) (H) Q) : W7 rm 119 [.val .null, l1, l2, l3, l4, l5] (S) H Q := W.aload_n d7_119 rfl rfl h
theorem d7_120 : decode prog_35_method_5_code 120 = .ok (.getfield 7, 3) := by decide +kernel
theorem s7_120 {rm : Room} {S : List Value} {H : AHeap} {Q : Option Value → AHeap → Prop} {l0 l1 l2 l3 l4 l5 : Slot} {i : Nat} {f0 f1 : Value} (hH : H[i]? = some (.inl (0, [f0, f1]))) (h : W7 rm 123 [l0, l1, l2, l3, l4, l5] (f0 :: S) (H) Q) : W7 rm 120 [l0, l1, l2, l3, l4, l5] (.ref i :: S) H Q := W.getF (c := 0) (j := 0) d7_120 (host := "") (Or.inl (List.mem_of_getElem? (i := 18) rfl)) (Or.inl rfl) rfl rfl hH rfl h
theorem d7_123 : decode prog_35_method_5_code 123 = .ok (.iload 4, 2) := by decide +kernel
theorem s7_123 {rm : Room} {S : List Value} {H : AHeap} {Q : Option Value → AHeap → Prop} {l0 l1 l2 l3 l5 : Slot} {x : Int32} (h : W7 rm 125 [l0, l1, l2, l3, .val (.int x), l5] (.int x :: S) (H) Q) : W7 rm 123 [l0, l1, l2, l3, .val (.int x), l5] (S) H Q := W.iload d7_123 rfl h
theorem d7_125 : decode prog_35_method_5_code 125 = .ok (.lload_n 2, 1) := by decide +kernel
theorem s7_125 {rm : Room} {S : List Value} {H : AHeap} {Q : Option Value → AHeap → Prop} {l0 l1 l3 l4 l5 : Slot} {x : Int64} (h : W7 rm 126 [l0, l1, .val (.long x), l3, l4, l5] (.long x :: S) (H) Q) : W7 rm 125 [l0, l1, .val (.long x), l3, l4, l5] (S) H Q := W.lload_n d7_125 rfl h
theorem d7_126 : decode prog_35_method_5_code 126 = .ok (.lastore, 1) := by decide +kernel
theorem s7_126 {rm : Room} {S : List Value} {H : AHeap} {Q : Option Value → AHeap → Prop} {l0 l1 l2 l3 l4 l5 : Slot} {i : Nat} {j : Int32} {x : Int64} {vs : List Value} (N : Nat) (hH : H[i]? = some (.inr (.long, vs))) (hj : ix j N) (hl : Nat.blt N vs.length = true) (h : W7 rm 127 [l0, l1, l2, l3, l4, l5] (S) (H.set i (.inr (.long, vs.set N (.long x)))) Q) : W7 rm 126 [l0, l1, l2, l3, l4, l5] (.long x :: .int j :: .ref i :: S) H Q := W.lastore d7_126 hH hj hl h
theorem d7_127 : decode prog_35_method_5_code 127 = .ok (.iload_n 1, 1) := by decide +kernel
theorem s7_127 {rm : Room} {S : List Value} {H : AHeap} {Q : Option Value → AHeap → Prop} {l0 l2 l3 l4 l5 : Slot} {x : Int32} (h : W7 rm 128 [l0, .val (.int x), l2, l3, l4, l5] (.int x :: S) (H) Q) : W7 rm 127 [l0, .val (.int x), l2, l3, l4, l5] (S) H Q := W.iload_n d7_127 rfl h
theorem d7_128 : decode prog_35_method_5_code 128 = .ok (.ireturn, 1) := by decide +kernel
theorem s7_128 {rm : Room} {S : List Value} {H : AHeap} {Q : Option Value → AHeap → Prop} {l0 l1 l2 l3 l4 l5 : Slot} {x : Int32} (hQ : Q (some (.int x)) H) : W7 rm 128 [l0, l1, l2, l3, l4, l5] (.int x :: S) H Q := W.ireturn d7_128 rfl hQ
theorem e8 {rm : Room} {H : AHeap} {Q : Option Value → AHeap → Prop} {a0 : Nat} (h : W8 rm 0 [.val (.ref a0)] [] H Q) : M8 rm [.ref a0] H Q := M.of pf8 rfl rfl h
theorem e8L {rm : Room} {H : AHeap} {Q : Option Value → AHeap → Prop} {L : List Slot} {as : List Value} (h : W8 rm 0 L [] H Q) (hl : ent as ++ List.replicate (1 - (ent as).length) .unset = L := by rfl) (hn : L.length = 1 := by rfl) : M8 rm as H Q := M.of pf8 hl hn h
theorem d8_0 : decode prog_35_method_3_code 0 = .ok (.aload_n 0, 1) := by decide +kernel
theorem s8_0 {rm : Room} {S : List Value} {H : AHeap} {Q : Option Value → AHeap → Prop} {i : Nat} (h : W8 rm 1 [.val (.ref i)] (.ref i :: S) (H) Q) : W8 rm 0 [.val (.ref i)] (S) H Q := W.aload_n d8_0 rfl rfl h
theorem s8_0n {rm : Room} {S : List Value} {H : AHeap} {Q : Option Value → AHeap → Prop}  (h : W8 rm 1 [.val .null] (.null :: S) (H) Q) : W8 rm 0 [.val .null] (S) H Q := W.aload_n d8_0 rfl rfl h
theorem d8_1 : decode prog_35_method_3_code 1 = .ok (.getfield 13, 3) := by decide +kernel
theorem s8_1 {rm : Room} {S : List Value} {H : AHeap} {Q : Option Value → AHeap → Prop} {l0 : Slot} {i : Nat} {f0 f1 : Value} (hH : H[i]? = some (.inl (0, [f0, f1]))) (h : W8 rm 4 [l0] (f1 :: S) (H) Q) : W8 rm 1 [l0] (.ref i :: S) H Q := W.getF (c := 0) (j := 1) d8_1 (host := "") (Or.inl (List.mem_of_getElem? (i := 32) rfl)) (Or.inl rfl) rfl rfl hH rfl h
theorem d8_4 : decode prog_35_method_3_code 4 = .ok (.ifCond .ne 7, 3) := by decide +kernel
theorem s8_4 {rm : Room} {S : List Value} {H : AHeap} {Q : Option Value → AHeap → Prop} {l0 : Slot} {x : Int32} (h1 : ¬ x = 0 → W8 rm 11 [l0] S H Q) (h2 : x = 0 → W8 rm 7 [l0] S H Q) : W8 rm 4 [l0] (.int x :: S) H Q := W.ifc d8_4 (by decide) (by decide) h1 h2
theorem d8_7 : decode prog_35_method_3_code 7 = .ok (.iconst 1, 1) := by decide +kernel
theorem s8_7 {rm : Room} {S : List Value} {H : AHeap} {Q : Option Value → AHeap → Prop} {l0 : Slot}  (h : W8 rm 8 [l0] (.int 1 :: S) (H) Q) : W8 rm 7 [l0] (S) H Q := W.iconst' d8_7 (by decide) h
theorem d8_8 : decode prog_35_method_3_code 8 = .ok (.goto 4, 3) := by decide +kernel
theorem s8_8 {rm : Room} {S : List Value} {H : AHeap} {Q : Option Value → AHeap → Prop} {l0 : Slot}  (h : W8 rm 12 [l0] (S) (H) Q) : W8 rm 8 [l0] (S) H Q := W.goto d8_8 (by decide) (by decide) h
theorem d8_11 : decode prog_35_method_3_code 11 = .ok (.iconst 0, 1) := by decide +kernel
theorem s8_11 {rm : Room} {S : List Value} {H : AHeap} {Q : Option Value → AHeap → Prop} {l0 : Slot}  (h : W8 rm 12 [l0] (.int 0 :: S) (H) Q) : W8 rm 11 [l0] (S) H Q := W.iconst' d8_11 (by decide) h
theorem d8_12 : decode prog_35_method_3_code 12 = .ok (.ireturn, 1) := by decide +kernel
theorem s8_12 {rm : Room} {S : List Value} {H : AHeap} {Q : Option Value → AHeap → Prop} {l0 : Slot} {x : Int32} (hQ : Q (some (.int (x &&& 1))) H) : W8 rm 12 [l0] (.int x :: S) H Q := W.ireturnZ d8_12 rfl hQ
theorem b0_332 {rm : Room} {S : List Value} {H : AHeap} {Q : Option Value → AHeap → Prop} {l0 l1 l2 l3 l4 l5 l6 l7 l8 l9 l10 l11 l12 l13 l14 l15 l16 l17 l18 l19 l20 l21 l22 l23 l24 l25 l26 l27 : Slot} {x : Int32} (h : ∀ t : Int32, ((¬ x = 0) ∧ t = 1) ∨ ((x = 0) ∧ t = 0) → W0 rm 340 [l0, l1, l2, l3, l4, l5, l6, l7, l8, l9, l10, l11, l12, l13, l14, l15, l16, l17, l18, l19, l20, l21, l22, l23, l24, l25, l26, l27] (.int t :: S) H Q) : W0 rm 332 [l0, l1, l2, l3, l4, l5, l6, l7, l8, l9, l10, l11, l12, l13, l14, l15, l16, l17, l18, l19, l20, l21, l22, l23, l24, l25, l26, l27] (.int x :: S) H Q := s0_332 (fun q => s0_339 (h 0 (Or.inr ⟨q, rfl⟩))) (fun q => s0_335 (s0_336 (h 1 (Or.inl ⟨q, rfl⟩))))
theorem b8_4 {rm : Room} {S : List Value} {H : AHeap} {Q : Option Value → AHeap → Prop} {l0 : Slot} {x : Int32} (h : ∀ t : Int32, ((x = 0) ∧ t = 1) ∨ ((¬ x = 0) ∧ t = 0) → W8 rm 12 [l0] (.int t :: S) H Q) : W8 rm 4 [l0] (.int x :: S) H Q := s8_4 (fun q => s8_11 (h 0 (Or.inr ⟨q, rfl⟩))) (fun q => s8_7 (s8_8 (h 1 (Or.inl ⟨q, rfl⟩))))
abbrev own_v (x0 x1 x2 x3 x4 : Int64) : List Value := [.long x0, .long x1, .long x2, .long x3, .long x4, .long 0, .long 0, .long 0, .long 0, .long 0, .long 0, .long 0, .long 0, .long 0, .long 0, .long 0]
abbrev own_q (c0 : ACell) (n : Int32) (x0 x1 x2 x3 x4 : Int64) : AHeap := [c0, (.inl (0, [.ref 2, .int n]) : ACell), .inr (.long, own_v x0 x1 x2 x3 x4)]
/-- the first n of them are a heap -/
def own_Hp (n : Nat) (x0 x1 x2 x3 x4 : Int64) : Prop := (1 < n → x0 ≤ x1) ∧ (2 < n → x0 ≤ x2) ∧ (3 < n → x1 ≤ x3) ∧ (4 < n → x1 ≤ x4)
/-- the first n of them -/
def own_L (n : Nat) (x0 x1 x2 x3 x4 : Int64) : List Int64 := [x0, x1, x2, x3, x4].take n
def own_e (st sv : Int32) : Int64 := st.toInt64 <<< ((32 : Int32).toInt64 &&& 63) ||| sv.toInt64
set_option maxHeartbeats 4000000 in
theorem own_add0 (c0 : ACell) (st sv : Int32) (x0 x1 x2 x3 x4 : Int64) (hp : own_Hp 0 x0 x1 x2 x3 x4) : M6 ⟨0, 0, 0, 0⟩ [.ref 1, .int st, .int sv] (own_q c0 0 x0 x1 x2 x3 x4) (fun v H' => v = none ∧ ∃ y0 y1 y2 y3 y4, H' = own_q c0 1 y0 y1 y2 y3 y4 ∧ own_Hp 1 y0 y1 y2 y3 y4 ∧ (own_L 1 y0 y1 y2 y3 y4).Perm (own_e st sv :: own_L 0 x0 x1 x2 x3 x4)) := by
  refine e6 ?_
  refine s6_0 ?_
  refine s6_1 rfl ?_
  refine s6_4 ?_
  refine s6_5 rfl ?_
  refine s6_8k 16 rfl rfl ?_
  refine s6_9 (fun _ => ?_) (fun h => absurd h (by decide))
  refine s6_29 ?_
  refine s6_30 ?_
  refine s6_31 ?_
  refine s6_33 ?_
  refine s6_34 ?_
  refine s6_35 ?_
  refine s6_36 ?_
  show W6 _ _ _ [.long (own_e st sv)] _ _
  generalize own_e st sv = e
  refine s6_37 rfl ?_
  refine s6_38 ?_
  refine s6_39 rfl ?_
  refine s6_40 rfl ?_
  refine s6_43 rfl rfl ?_
  refine s6_44 ?_
  refine s6_45 ?_
  refine s6_46 rfl ?_
  refine s6_49 rfl ?_
  refine s6_51 ?_
  refine s6_53 (fun _ => ?_) (fun h => absurd h (by decide))
  refine s6_101 ?_
  refine s6_102 rfl ?_
  refine s6_105 ?_
  refine s6_107 ?_
  refine s6_108 0 rfl (by decide) rfl ?_
  exact s6_109 ⟨rfl, _, _, _, _, _, rfl, (by simp only [own_Hp] at *; simp only [Int64.le_iff_toInt_le, Int64.lt_iff_toInt_lt] at * <;> omega), (by simp only [own_L, List.take, List.perm_iff_count]; intro z; simp only [List.count_cons, List.count_nil] <;> omega)⟩
set_option maxHeartbeats 4000000 in
theorem own_add1 (c0 : ACell) (st sv : Int32) (x0 x1 x2 x3 x4 : Int64) (hp : own_Hp 1 x0 x1 x2 x3 x4) : M6 ⟨0, 0, 0, 0⟩ [.ref 1, .int st, .int sv] (own_q c0 1 x0 x1 x2 x3 x4) (fun v H' => v = none ∧ ∃ y0 y1 y2 y3 y4, H' = own_q c0 2 y0 y1 y2 y3 y4 ∧ own_Hp 2 y0 y1 y2 y3 y4 ∧ (own_L 2 y0 y1 y2 y3 y4).Perm (own_e st sv :: own_L 1 x0 x1 x2 x3 x4)) := by
  refine e6 ?_
  refine s6_0 ?_
  refine s6_1 rfl ?_
  refine s6_4 ?_
  refine s6_5 rfl ?_
  refine s6_8k 16 rfl rfl ?_
  refine s6_9 (fun _ => ?_) (fun h => absurd h (by decide))
  refine s6_29 ?_
  refine s6_30 ?_
  refine s6_31 ?_
  refine s6_33 ?_
  refine s6_34 ?_
  refine s6_35 ?_
  refine s6_36 ?_
  show W6 _ _ _ [.long (own_e st sv)] _ _
  generalize own_e st sv = e
  refine s6_37 rfl ?_
  refine s6_38 ?_
  refine s6_39 rfl ?_
  refine s6_40 rfl ?_
  refine s6_43 rfl rfl ?_
  refine s6_44 ?_
  refine s6_45 ?_
  refine s6_46 rfl ?_
  refine s6_49 rfl ?_
  refine s6_51 ?_
  refine s6_53 (fun h => absurd h (by decide)) (fun _ => ?_)
  refine s6_56 ?_
  refine s6_57 rfl ?_
  refine s6_60 ?_
  refine s6_62 ?_
  refine s6_63 ?_
  refine s6_64 ?_
  refine s6_65 (by decide) ?_
  refine s6_66 0 rfl (by decide) rfl ?_
  refine s6_67 ?_
  refine s6_68c (fun h0 => ?_) (fun h0 => ?_)
  · refine s6_101 ?_
    refine s6_102 rfl ?_
    refine s6_105 ?_
    refine s6_107 ?_
    refine s6_108 1 rfl (by decide) rfl ?_
    exact s6_109 ⟨rfl, _, _, _, _, _, rfl, (by simp only [own_Hp] at *; simp only [Int64.le_iff_toInt_le, Int64.lt_iff_toInt_lt] at * <;> omega), (by simp only [own_L, List.take, List.perm_iff_count]; intro z; simp only [List.count_cons, List.count_nil] <;> omega)⟩
  · refine s6_72 ?_
    refine s6_73 rfl ?_
    refine s6_76 ?_
    refine s6_78 ?_
    refine s6_79 rfl ?_
    refine s6_82 ?_
    refine s6_84 ?_
    refine s6_85 ?_
    refine s6_86 ?_
    refine s6_87 (by decide) ?_
    refine s6_88 0 rfl (by decide) rfl ?_
    refine s6_89 1 rfl (by decide) rfl ?_
    refine s6_90 ?_
    refine s6_92 ?_
    refine s6_93 ?_
    refine s6_94 ?_
    refine s6_95 (by decide) ?_
    refine s6_96 rfl ?_
    refine s6_98 ?_
    refine s6_51 ?_
    refine s6_53 (fun _ => ?_) (fun h => absurd h (by decide))
    refine s6_101 ?_
    refine s6_102 rfl ?_
    refine s6_105 ?_
    refine s6_107 ?_
    refine s6_108 0 rfl (by decide) rfl ?_
    exact s6_109 ⟨rfl, _, _, _, _, _, rfl, (by simp only [own_Hp] at *; simp only [Int64.le_iff_toInt_le, Int64.lt_iff_toInt_lt] at * <;> omega), (by simp only [own_L, List.take, List.perm_iff_count]; intro z; simp only [List.count_cons, List.count_nil] <;> omega)⟩
set_option maxHeartbeats 4000000 in
theorem own_add2 (c0 : ACell) (st sv : Int32) (x0 x1 x2 x3 x4 : Int64) (hp : own_Hp 2 x0 x1 x2 x3 x4) : M6 ⟨0, 0, 0, 0⟩ [.ref 1, .int st, .int sv] (own_q c0 2 x0 x1 x2 x3 x4) (fun v H' => v = none ∧ ∃ y0 y1 y2 y3 y4, H' = own_q c0 3 y0 y1 y2 y3 y4 ∧ own_Hp 3 y0 y1 y2 y3 y4 ∧ (own_L 3 y0 y1 y2 y3 y4).Perm (own_e st sv :: own_L 2 x0 x1 x2 x3 x4)) := by
  refine e6 ?_
  refine s6_0 ?_
  refine s6_1 rfl ?_
  refine s6_4 ?_
  refine s6_5 rfl ?_
  refine s6_8k 16 rfl rfl ?_
  refine s6_9 (fun _ => ?_) (fun h => absurd h (by decide))
  refine s6_29 ?_
  refine s6_30 ?_
  refine s6_31 ?_
  refine s6_33 ?_
  refine s6_34 ?_
  refine s6_35 ?_
  refine s6_36 ?_
  show W6 _ _ _ [.long (own_e st sv)] _ _
  generalize own_e st sv = e
  refine s6_37 rfl ?_
  refine s6_38 ?_
  refine s6_39 rfl ?_
  refine s6_40 rfl ?_
  refine s6_43 rfl rfl ?_
  refine s6_44 ?_
  refine s6_45 ?_
  refine s6_46 rfl ?_
  refine s6_49 rfl ?_
  refine s6_51 ?_
  refine s6_53 (fun h => absurd h (by decide)) (fun _ => ?_)
  refine s6_56 ?_
  refine s6_57 rfl ?_
  refine s6_60 ?_
  refine s6_62 ?_
  refine s6_63 ?_
  refine s6_64 ?_
  refine s6_65 (by decide) ?_
  refine s6_66 0 rfl (by decide) rfl ?_
  refine s6_67 ?_
  refine s6_68c (fun h0 => ?_) (fun h0 => ?_)
  · refine s6_101 ?_
    refine s6_102 rfl ?_
    refine s6_105 ?_
    refine s6_107 ?_
    refine s6_108 2 rfl (by decide) rfl ?_
    exact s6_109 ⟨rfl, _, _, _, _, _, rfl, (by simp only [own_Hp] at *; simp only [Int64.le_iff_toInt_le, Int64.lt_iff_toInt_lt] at * <;> omega), (by simp only [own_L, List.take, List.perm_iff_count]; intro z; simp only [List.count_cons, List.count_nil] <;> omega)⟩
  · refine s6_72 ?_
    refine s6_73 rfl ?_
    refine s6_76 ?_
    refine s6_78 ?_
    refine s6_79 rfl ?_
    refine s6_82 ?_
    refine s6_84 ?_
    refine s6_85 ?_
    refine s6_86 ?_
    refine s6_87 (by decide) ?_
    refine s6_88 0 rfl (by decide) rfl ?_
    refine s6_89 2 rfl (by decide) rfl ?_
    refine s6_90 ?_
    refine s6_92 ?_
    refine s6_93 ?_
    refine s6_94 ?_
    refine s6_95 (by decide) ?_
    refine s6_96 rfl ?_
    refine s6_98 ?_
    refine s6_51 ?_
    refine s6_53 (fun _ => ?_) (fun h => absurd h (by decide))
    refine s6_101 ?_
    refine s6_102 rfl ?_
    refine s6_105 ?_
    refine s6_107 ?_
    refine s6_108 0 rfl (by decide) rfl ?_
    exact s6_109 ⟨rfl, _, _, _, _, _, rfl, (by simp only [own_Hp] at *; simp only [Int64.le_iff_toInt_le, Int64.lt_iff_toInt_lt] at * <;> omega), (by simp only [own_L, List.take, List.perm_iff_count]; intro z; simp only [List.count_cons, List.count_nil] <;> omega)⟩
set_option maxHeartbeats 4000000 in
theorem own_add3 (c0 : ACell) (st sv : Int32) (x0 x1 x2 x3 x4 : Int64) (hp : own_Hp 3 x0 x1 x2 x3 x4) : M6 ⟨0, 0, 0, 0⟩ [.ref 1, .int st, .int sv] (own_q c0 3 x0 x1 x2 x3 x4) (fun v H' => v = none ∧ ∃ y0 y1 y2 y3 y4, H' = own_q c0 4 y0 y1 y2 y3 y4 ∧ own_Hp 4 y0 y1 y2 y3 y4 ∧ (own_L 4 y0 y1 y2 y3 y4).Perm (own_e st sv :: own_L 3 x0 x1 x2 x3 x4)) := by
  refine e6 ?_
  refine s6_0 ?_
  refine s6_1 rfl ?_
  refine s6_4 ?_
  refine s6_5 rfl ?_
  refine s6_8k 16 rfl rfl ?_
  refine s6_9 (fun _ => ?_) (fun h => absurd h (by decide))
  refine s6_29 ?_
  refine s6_30 ?_
  refine s6_31 ?_
  refine s6_33 ?_
  refine s6_34 ?_
  refine s6_35 ?_
  refine s6_36 ?_
  show W6 _ _ _ [.long (own_e st sv)] _ _
  generalize own_e st sv = e
  refine s6_37 rfl ?_
  refine s6_38 ?_
  refine s6_39 rfl ?_
  refine s6_40 rfl ?_
  refine s6_43 rfl rfl ?_
  refine s6_44 ?_
  refine s6_45 ?_
  refine s6_46 rfl ?_
  refine s6_49 rfl ?_
  refine s6_51 ?_
  refine s6_53 (fun h => absurd h (by decide)) (fun _ => ?_)
  refine s6_56 ?_
  refine s6_57 rfl ?_
  refine s6_60 ?_
  refine s6_62 ?_
  refine s6_63 ?_
  refine s6_64 ?_
  refine s6_65 (by decide) ?_
  refine s6_66 1 rfl (by decide) rfl ?_
  refine s6_67 ?_
  refine s6_68c (fun h0 => ?_) (fun h0 => ?_)
  · refine s6_101 ?_
    refine s6_102 rfl ?_
    refine s6_105 ?_
    refine s6_107 ?_
    refine s6_108 3 rfl (by decide) rfl ?_
    exact s6_109 ⟨rfl, _, _, _, _, _, rfl, (by simp only [own_Hp] at *; simp only [Int64.le_iff_toInt_le, Int64.lt_iff_toInt_lt] at * <;> omega), (by simp only [own_L, List.take, List.perm_iff_count]; intro z; simp only [List.count_cons, List.count_nil] <;> omega)⟩
  · refine s6_72 ?_
    refine s6_73 rfl ?_
    refine s6_76 ?_
    refine s6_78 ?_
    refine s6_79 rfl ?_
    refine s6_82 ?_
    refine s6_84 ?_
    refine s6_85 ?_
    refine s6_86 ?_
    refine s6_87 (by decide) ?_
    refine s6_88 1 rfl (by decide) rfl ?_
    refine s6_89 3 rfl (by decide) rfl ?_
    refine s6_90 ?_
    refine s6_92 ?_
    refine s6_93 ?_
    refine s6_94 ?_
    refine s6_95 (by decide) ?_
    refine s6_96 rfl ?_
    refine s6_98 ?_
    refine s6_51 ?_
    refine s6_53 (fun h => absurd h (by decide)) (fun _ => ?_)
    refine s6_56 ?_
    refine s6_57 rfl ?_
    refine s6_60 ?_
    refine s6_62 ?_
    refine s6_63 ?_
    refine s6_64 ?_
    refine s6_65 (by decide) ?_
    refine s6_66 0 rfl (by decide) rfl ?_
    refine s6_67 ?_
    refine s6_68c (fun h1 => ?_) (fun h1 => ?_)
    · refine s6_101 ?_
      refine s6_102 rfl ?_
      refine s6_105 ?_
      refine s6_107 ?_
      refine s6_108 1 rfl (by decide) rfl ?_
      exact s6_109 ⟨rfl, _, _, _, _, _, rfl, (by simp only [own_Hp] at *; simp only [Int64.le_iff_toInt_le, Int64.lt_iff_toInt_lt] at * <;> omega), (by simp only [own_L, List.take, List.perm_iff_count]; intro z; simp only [List.count_cons, List.count_nil] <;> omega)⟩
    · refine s6_72 ?_
      refine s6_73 rfl ?_
      refine s6_76 ?_
      refine s6_78 ?_
      refine s6_79 rfl ?_
      refine s6_82 ?_
      refine s6_84 ?_
      refine s6_85 ?_
      refine s6_86 ?_
      refine s6_87 (by decide) ?_
      refine s6_88 0 rfl (by decide) rfl ?_
      refine s6_89 1 rfl (by decide) rfl ?_
      refine s6_90 ?_
      refine s6_92 ?_
      refine s6_93 ?_
      refine s6_94 ?_
      refine s6_95 (by decide) ?_
      refine s6_96 rfl ?_
      refine s6_98 ?_
      refine s6_51 ?_
      refine s6_53 (fun _ => ?_) (fun h => absurd h (by decide))
      refine s6_101 ?_
      refine s6_102 rfl ?_
      refine s6_105 ?_
      refine s6_107 ?_
      refine s6_108 0 rfl (by decide) rfl ?_
      exact s6_109 ⟨rfl, _, _, _, _, _, rfl, (by simp only [own_Hp] at *; simp only [Int64.le_iff_toInt_le, Int64.lt_iff_toInt_lt] at * <;> omega), (by simp only [own_L, List.take, List.perm_iff_count]; intro z; simp only [List.count_cons, List.count_nil] <;> omega)⟩
set_option maxHeartbeats 4000000 in
theorem own_add4 (c0 : ACell) (st sv : Int32) (x0 x1 x2 x3 x4 : Int64) (hp : own_Hp 4 x0 x1 x2 x3 x4) : M6 ⟨0, 0, 0, 0⟩ [.ref 1, .int st, .int sv] (own_q c0 4 x0 x1 x2 x3 x4) (fun v H' => v = none ∧ ∃ y0 y1 y2 y3 y4, H' = own_q c0 5 y0 y1 y2 y3 y4 ∧ own_Hp 5 y0 y1 y2 y3 y4 ∧ (own_L 5 y0 y1 y2 y3 y4).Perm (own_e st sv :: own_L 4 x0 x1 x2 x3 x4)) := by
  refine e6 ?_
  refine s6_0 ?_
  refine s6_1 rfl ?_
  refine s6_4 ?_
  refine s6_5 rfl ?_
  refine s6_8k 16 rfl rfl ?_
  refine s6_9 (fun _ => ?_) (fun h => absurd h (by decide))
  refine s6_29 ?_
  refine s6_30 ?_
  refine s6_31 ?_
  refine s6_33 ?_
  refine s6_34 ?_
  refine s6_35 ?_
  refine s6_36 ?_
  show W6 _ _ _ [.long (own_e st sv)] _ _
  generalize own_e st sv = e
  refine s6_37 rfl ?_
  refine s6_38 ?_
  refine s6_39 rfl ?_
  refine s6_40 rfl ?_
  refine s6_43 rfl rfl ?_
  refine s6_44 ?_
  refine s6_45 ?_
  refine s6_46 rfl ?_
  refine s6_49 rfl ?_
  refine s6_51 ?_
  refine s6_53 (fun h => absurd h (by decide)) (fun _ => ?_)
  refine s6_56 ?_
  refine s6_57 rfl ?_
  refine s6_60 ?_
  refine s6_62 ?_
  refine s6_63 ?_
  refine s6_64 ?_
  refine s6_65 (by decide) ?_
  refine s6_66 1 rfl (by decide) rfl ?_
  refine s6_67 ?_
  refine s6_68c (fun h0 => ?_) (fun h0 => ?_)
  · refine s6_101 ?_
    refine s6_102 rfl ?_
    refine s6_105 ?_
    refine s6_107 ?_
    refine s6_108 4 rfl (by decide) rfl ?_
    exact s6_109 ⟨rfl, _, _, _, _, _, rfl, (by simp only [own_Hp] at *; simp only [Int64.le_iff_toInt_le, Int64.lt_iff_toInt_lt] at * <;> omega), (by simp only [own_L, List.take, List.perm_iff_count]; intro z; simp only [List.count_cons, List.count_nil] <;> omega)⟩
  · refine s6_72 ?_
    refine s6_73 rfl ?_
    refine s6_76 ?_
    refine s6_78 ?_
    refine s6_79 rfl ?_
    refine s6_82 ?_
    refine s6_84 ?_
    refine s6_85 ?_
    refine s6_86 ?_
    refine s6_87 (by decide) ?_
    refine s6_88 1 rfl (by decide) rfl ?_
    refine s6_89 4 rfl (by decide) rfl ?_
    refine s6_90 ?_
    refine s6_92 ?_
    refine s6_93 ?_
    refine s6_94 ?_
    refine s6_95 (by decide) ?_
    refine s6_96 rfl ?_
    refine s6_98 ?_
    refine s6_51 ?_
    refine s6_53 (fun h => absurd h (by decide)) (fun _ => ?_)
    refine s6_56 ?_
    refine s6_57 rfl ?_
    refine s6_60 ?_
    refine s6_62 ?_
    refine s6_63 ?_
    refine s6_64 ?_
    refine s6_65 (by decide) ?_
    refine s6_66 0 rfl (by decide) rfl ?_
    refine s6_67 ?_
    refine s6_68c (fun h1 => ?_) (fun h1 => ?_)
    · refine s6_101 ?_
      refine s6_102 rfl ?_
      refine s6_105 ?_
      refine s6_107 ?_
      refine s6_108 1 rfl (by decide) rfl ?_
      exact s6_109 ⟨rfl, _, _, _, _, _, rfl, (by simp only [own_Hp] at *; simp only [Int64.le_iff_toInt_le, Int64.lt_iff_toInt_lt] at * <;> omega), (by simp only [own_L, List.take, List.perm_iff_count]; intro z; simp only [List.count_cons, List.count_nil] <;> omega)⟩
    · refine s6_72 ?_
      refine s6_73 rfl ?_
      refine s6_76 ?_
      refine s6_78 ?_
      refine s6_79 rfl ?_
      refine s6_82 ?_
      refine s6_84 ?_
      refine s6_85 ?_
      refine s6_86 ?_
      refine s6_87 (by decide) ?_
      refine s6_88 0 rfl (by decide) rfl ?_
      refine s6_89 1 rfl (by decide) rfl ?_
      refine s6_90 ?_
      refine s6_92 ?_
      refine s6_93 ?_
      refine s6_94 ?_
      refine s6_95 (by decide) ?_
      refine s6_96 rfl ?_
      refine s6_98 ?_
      refine s6_51 ?_
      refine s6_53 (fun _ => ?_) (fun h => absurd h (by decide))
      refine s6_101 ?_
      refine s6_102 rfl ?_
      refine s6_105 ?_
      refine s6_107 ?_
      refine s6_108 0 rfl (by decide) rfl ?_
      exact s6_109 ⟨rfl, _, _, _, _, _, rfl, (by simp only [own_Hp] at *; simp only [Int64.le_iff_toInt_le, Int64.lt_iff_toInt_lt] at * <;> omega), (by simp only [own_L, List.take, List.perm_iff_count]; intro z; simp only [List.count_cons, List.count_nil] <;> omega)⟩
set_option maxHeartbeats 4000000 in
theorem own_poll1 (c0 : ACell) (x0 x1 x2 x3 x4 : Int64) (hp : own_Hp 1 x0 x1 x2 x3 x4) : M7 ⟨0, 0, 0, 0⟩ [.ref 1] (own_q c0 1 x0 x1 x2 x3 x4) (fun v H' => v = some (.int x0.toInt32) ∧ ∃ y0 y1 y2 y3 y4, H' = own_q c0 0 y0 y1 y2 y3 y4 ∧ own_Hp 0 y0 y1 y2 y3 y4 ∧ (x0 :: own_L 0 y0 y1 y2 y3 y4).Perm (own_L 1 x0 x1 x2 x3 x4)) := by
  refine e7 ?_
  refine s7_0 ?_
  refine s7_1 rfl ?_
  refine s7_4 ?_
  refine s7_5 0 rfl (by decide) rfl ?_
  refine s7_6 ?_
  refine s7_7 rfl ?_
  refine s7_8 ?_
  refine s7_9 rfl ?_
  refine s7_12 ?_
  refine s7_13 rfl ?_
  refine s7_14 rfl ?_
  refine s7_17 ?_
  refine s7_18 ?_
  refine s7_19 rfl rfl ?_
  refine s7_20 rfl ?_
  refine s7_23 0 rfl (by decide) rfl ?_
  refine s7_24 rfl ?_
  refine s7_25 ?_
  refine s7_26 rfl ?_
  refine s7_28 ?_
  refine s7_29 ?_
  refine s7_31 ?_
  refine s7_32 ?_
  refine s7_33 ?_
  refine s7_34 ?_
  refine s7_35 rfl ?_
  refine s7_38 (fun _ => ?_) (fun h => absurd h (by decide))
  refine s7_119 ?_
  refine s7_120 rfl ?_
  refine s7_123 ?_
  refine s7_125 ?_
  refine s7_126 0 rfl (by decide) rfl ?_
  refine s7_127 ?_
  exact s7_128 ⟨rfl, _, _, _, _, _, rfl, (by simp only [own_Hp] at *; simp only [Int64.le_iff_toInt_le, Int64.lt_iff_toInt_lt] at * <;> omega), (by simp only [own_L, List.take, List.perm_iff_count]; intro z; simp only [List.count_cons, List.count_nil] <;> omega)⟩
set_option maxHeartbeats 4000000 in
theorem own_poll2 (c0 : ACell) (x0 x1 x2 x3 x4 : Int64) (hp : own_Hp 2 x0 x1 x2 x3 x4) : M7 ⟨0, 0, 0, 0⟩ [.ref 1] (own_q c0 2 x0 x1 x2 x3 x4) (fun v H' => v = some (.int x0.toInt32) ∧ ∃ y0 y1 y2 y3 y4, H' = own_q c0 1 y0 y1 y2 y3 y4 ∧ own_Hp 1 y0 y1 y2 y3 y4 ∧ (x0 :: own_L 1 y0 y1 y2 y3 y4).Perm (own_L 2 x0 x1 x2 x3 x4)) := by
  refine e7 ?_
  refine s7_0 ?_
  refine s7_1 rfl ?_
  refine s7_4 ?_
  refine s7_5 0 rfl (by decide) rfl ?_
  refine s7_6 ?_
  refine s7_7 rfl ?_
  refine s7_8 ?_
  refine s7_9 rfl ?_
  refine s7_12 ?_
  refine s7_13 rfl ?_
  refine s7_14 rfl ?_
  refine s7_17 ?_
  refine s7_18 ?_
  refine s7_19 rfl rfl ?_
  refine s7_20 rfl ?_
  refine s7_23 1 rfl (by decide) rfl ?_
  refine s7_24 rfl ?_
  refine s7_25 ?_
  refine s7_26 rfl ?_
  refine s7_28 ?_
  refine s7_29 ?_
  refine s7_31 ?_
  refine s7_32 ?_
  refine s7_33 ?_
  refine s7_34 ?_
  refine s7_35 rfl ?_
  refine s7_38 (fun _ => ?_) (fun h => absurd h (by decide))
  refine s7_119 ?_
  refine s7_120 rfl ?_
  refine s7_123 ?_
  refine s7_125 ?_
  refine s7_126 0 rfl (by decide) rfl ?_
  refine s7_127 ?_
  exact s7_128 ⟨rfl, _, _, _, _, _, rfl, (by simp only [own_Hp] at *; simp only [Int64.le_iff_toInt_le, Int64.lt_iff_toInt_lt] at * <;> omega), (by simp only [own_L, List.take, List.perm_iff_count]; intro z; simp only [List.count_cons, List.count_nil] <;> omega)⟩
set_option maxHeartbeats 4000000 in
theorem own_poll3 (c0 : ACell) (x0 x1 x2 x3 x4 : Int64) (hp : own_Hp 3 x0 x1 x2 x3 x4) : M7 ⟨0, 0, 0, 0⟩ [.ref 1] (own_q c0 3 x0 x1 x2 x3 x4) (fun v H' => v = some (.int x0.toInt32) ∧ ∃ y0 y1 y2 y3 y4, H' = own_q c0 2 y0 y1 y2 y3 y4 ∧ own_Hp 2 y0 y1 y2 y3 y4 ∧ (x0 :: own_L 2 y0 y1 y2 y3 y4).Perm (own_L 3 x0 x1 x2 x3 x4)) := by
  refine e7 ?_
  refine s7_0 ?_
  refine s7_1 rfl ?_
  refine s7_4 ?_
  refine s7_5 0 rfl (by decide) rfl ?_
  refine s7_6 ?_
  refine s7_7 rfl ?_
  refine s7_8 ?_
  refine s7_9 rfl ?_
  refine s7_12 ?_
  refine s7_13 rfl ?_
  refine s7_14 rfl ?_
  refine s7_17 ?_
  refine s7_18 ?_
  refine s7_19 rfl rfl ?_
  refine s7_20 rfl ?_
  refine s7_23 2 rfl (by decide) rfl ?_
  refine s7_24 rfl ?_
  refine s7_25 ?_
  refine s7_26 rfl ?_
  refine s7_28 ?_
  refine s7_29 ?_
  refine s7_31 ?_
  refine s7_32 ?_
  refine s7_33 ?_
  refine s7_34 ?_
  refine s7_35 rfl ?_
  refine s7_38 (fun h => absurd h (by decide)) (fun _ => ?_)
  refine s7_41 ?_
  refine s7_42 ?_
  refine s7_44 ?_
  refine s7_45 ?_
  refine s7_46 ?_
  refine s7_47 rfl ?_
  refine s7_49 ?_
  refine s7_51 ?_
  refine s7_52 ?_
  refine s7_53 ?_
  refine s7_54 rfl ?_
  refine s7_57 (fun _ => ?_) (fun h => absurd h (by decide))
  refine s7_83 ?_
  refine s7_84 rfl ?_
  refine s7_87 ?_
  refine s7_89 1 rfl (by decide) rfl ?_
  refine s7_90 ?_
  refine s7_91c (fun h0 => ?_) (fun h0 => ?_)
  · refine s7_98 ?_
    refine s7_99 rfl ?_
    refine s7_102 ?_
    refine s7_104 ?_
    refine s7_105 rfl ?_
    refine s7_108 ?_
    refine s7_110 1 rfl (by decide) rfl ?_
    refine s7_111 0 rfl (by decide) rfl ?_
    refine s7_112 ?_
    refine s7_114 rfl ?_
    refine s7_116 ?_
    refine s7_28 ?_
    refine s7_29 ?_
    refine s7_31 ?_
    refine s7_32 ?_
    refine s7_33 ?_
    refine s7_34 ?_
    refine s7_35 rfl ?_
    refine s7_38 (fun _ => ?_) (fun h => absurd h (by decide))
    refine s7_119 ?_
    refine s7_120 rfl ?_
    refine s7_123 ?_
    refine s7_125 ?_
    refine s7_126 1 rfl (by decide) rfl ?_
    refine s7_127 ?_
    exact s7_128 ⟨rfl, _, _, _, _, _, rfl, (by simp only [own_Hp] at *; simp only [Int64.le_iff_toInt_le, Int64.lt_iff_toInt_lt] at * <;> omega), (by simp only [own_L, List.take, List.perm_iff_count]; intro z; simp only [List.count_cons, List.count_nil] <;> omega)⟩
  · refine s7_95 ?_
    refine s7_119 ?_
    refine s7_120 rfl ?_
    refine s7_123 ?_
    refine s7_125 ?_
    refine s7_126 0 rfl (by decide) rfl ?_
    refine s7_127 ?_
    exact s7_128 ⟨rfl, _, _, _, _, _, rfl, (by simp only [own_Hp] at *; simp only [Int64.le_iff_toInt_le, Int64.lt_iff_toInt_lt] at * <;> omega), (by simp only [own_L, List.take, List.perm_iff_count]; intro z; simp only [List.count_cons, List.count_nil] <;> omega)⟩
set_option maxHeartbeats 4000000 in
theorem own_poll4 (c0 : ACell) (x0 x1 x2 x3 x4 : Int64) (hp : own_Hp 4 x0 x1 x2 x3 x4) : M7 ⟨0, 0, 0, 0⟩ [.ref 1] (own_q c0 4 x0 x1 x2 x3 x4) (fun v H' => v = some (.int x0.toInt32) ∧ ∃ y0 y1 y2 y3 y4, H' = own_q c0 3 y0 y1 y2 y3 y4 ∧ own_Hp 3 y0 y1 y2 y3 y4 ∧ (x0 :: own_L 3 y0 y1 y2 y3 y4).Perm (own_L 4 x0 x1 x2 x3 x4)) := by
  refine e7 ?_
  refine s7_0 ?_
  refine s7_1 rfl ?_
  refine s7_4 ?_
  refine s7_5 0 rfl (by decide) rfl ?_
  refine s7_6 ?_
  refine s7_7 rfl ?_
  refine s7_8 ?_
  refine s7_9 rfl ?_
  refine s7_12 ?_
  refine s7_13 rfl ?_
  refine s7_14 rfl ?_
  refine s7_17 ?_
  refine s7_18 ?_
  refine s7_19 rfl rfl ?_
  refine s7_20 rfl ?_
  refine s7_23 3 rfl (by decide) rfl ?_
  refine s7_24 rfl ?_
  refine s7_25 ?_
  refine s7_26 rfl ?_
  refine s7_28 ?_
  refine s7_29 ?_
  refine s7_31 ?_
  refine s7_32 ?_
  refine s7_33 ?_
  refine s7_34 ?_
  refine s7_35 rfl ?_
  refine s7_38 (fun h => absurd h (by decide)) (fun _ => ?_)
  refine s7_41 ?_
  refine s7_42 ?_
  refine s7_44 ?_
  refine s7_45 ?_
  refine s7_46 ?_
  refine s7_47 rfl ?_
  refine s7_49 ?_
  refine s7_51 ?_
  refine s7_52 ?_
  refine s7_53 ?_
  refine s7_54 rfl ?_
  refine s7_57 (fun h => absurd h (by decide)) (fun _ => ?_)
  refine s7_60 ?_
  refine s7_61 rfl ?_
  refine s7_64 ?_
  refine s7_66 ?_
  refine s7_67 ?_
  refine s7_68 2 rfl (by decide) rfl ?_
  refine s7_69 ?_
  refine s7_70 rfl ?_
  refine s7_73 ?_
  refine s7_75 1 rfl (by decide) rfl ?_
  refine s7_76c (fun h0 => ?_) (fun h0 => ?_)
  · refine s7_83 ?_
    refine s7_84 rfl ?_
    refine s7_87 ?_
    refine s7_89 1 rfl (by decide) rfl ?_
    refine s7_90 ?_
    refine s7_91c (fun h1 => ?_) (fun h1 => ?_)
    · refine s7_98 ?_
      refine s7_99 rfl ?_
      refine s7_102 ?_
      refine s7_104 ?_
      refine s7_105 rfl ?_
      refine s7_108 ?_
      refine s7_110 1 rfl (by decide) rfl ?_
      refine s7_111 0 rfl (by decide) rfl ?_
      refine s7_112 ?_
      refine s7_114 rfl ?_
      refine s7_116 ?_
      refine s7_28 ?_
      refine s7_29 ?_
      refine s7_31 ?_
      refine s7_32 ?_
      refine s7_33 ?_
      refine s7_34 ?_
      refine s7_35 rfl ?_
      refine s7_38 (fun _ => ?_) (fun h => absurd h (by decide))
      refine s7_119 ?_
      refine s7_120 rfl ?_
      refine s7_123 ?_
      refine s7_125 ?_
      refine s7_126 1 rfl (by decide) rfl ?_
      refine s7_127 ?_
      exact s7_128 ⟨rfl, _, _, _, _, _, rfl, (by simp only [own_Hp] at *; simp only [Int64.le_iff_toInt_le, Int64.lt_iff_toInt_lt] at * <;> omega), (by simp only [own_L, List.take, List.perm_iff_count]; intro z; simp only [List.count_cons, List.count_nil] <;> omega)⟩
    · refine s7_95 ?_
      refine s7_119 ?_
      refine s7_120 rfl ?_
      refine s7_123 ?_
      refine s7_125 ?_
      refine s7_126 0 rfl (by decide) rfl ?_
      refine s7_127 ?_
      exact s7_128 ⟨rfl, _, _, _, _, _, rfl, (by simp only [own_Hp] at *; simp only [Int64.le_iff_toInt_le, Int64.lt_iff_toInt_lt] at * <;> omega), (by simp only [own_L, List.take, List.perm_iff_count]; intro z; simp only [List.count_cons, List.count_nil] <;> omega)⟩
  · refine s7_80 ?_
    refine s7_83 ?_
    refine s7_84 rfl ?_
    refine s7_87 ?_
    refine s7_89 2 rfl (by decide) rfl ?_
    refine s7_90 ?_
    refine s7_91c (fun h1 => ?_) (fun h1 => ?_)
    · refine s7_98 ?_
      refine s7_99 rfl ?_
      refine s7_102 ?_
      refine s7_104 ?_
      refine s7_105 rfl ?_
      refine s7_108 ?_
      refine s7_110 2 rfl (by decide) rfl ?_
      refine s7_111 0 rfl (by decide) rfl ?_
      refine s7_112 ?_
      refine s7_114 rfl ?_
      refine s7_116 ?_
      refine s7_28 ?_
      refine s7_29 ?_
      refine s7_31 ?_
      refine s7_32 ?_
      refine s7_33 ?_
      refine s7_34 ?_
      refine s7_35 rfl ?_
      refine s7_38 (fun _ => ?_) (fun h => absurd h (by decide))
      refine s7_119 ?_
      refine s7_120 rfl ?_
      refine s7_123 ?_
      refine s7_125 ?_
      refine s7_126 2 rfl (by decide) rfl ?_
      refine s7_127 ?_
      exact s7_128 ⟨rfl, _, _, _, _, _, rfl, (by simp only [own_Hp] at *; simp only [Int64.le_iff_toInt_le, Int64.lt_iff_toInt_lt] at * <;> omega), (by simp only [own_L, List.take, List.perm_iff_count]; intro z; simp only [List.count_cons, List.count_nil] <;> omega)⟩
    · refine s7_95 ?_
      refine s7_119 ?_
      refine s7_120 rfl ?_
      refine s7_123 ?_
      refine s7_125 ?_
      refine s7_126 0 rfl (by decide) rfl ?_
      refine s7_127 ?_
      exact s7_128 ⟨rfl, _, _, _, _, _, rfl, (by simp only [own_Hp] at *; simp only [Int64.le_iff_toInt_le, Int64.lt_iff_toInt_lt] at * <;> omega), (by simp only [own_L, List.take, List.perm_iff_count]; intro z; simp only [List.count_cons, List.count_nil] <;> omega)⟩
set_option maxHeartbeats 4000000 in
theorem own_poll5 (c0 : ACell) (x0 x1 x2 x3 x4 : Int64) (hp : own_Hp 5 x0 x1 x2 x3 x4) : M7 ⟨0, 0, 0, 0⟩ [.ref 1] (own_q c0 5 x0 x1 x2 x3 x4) (fun v H' => v = some (.int x0.toInt32) ∧ ∃ y0 y1 y2 y3 y4, H' = own_q c0 4 y0 y1 y2 y3 y4 ∧ own_Hp 4 y0 y1 y2 y3 y4 ∧ (x0 :: own_L 4 y0 y1 y2 y3 y4).Perm (own_L 5 x0 x1 x2 x3 x4)) := by
  refine e7 ?_
  refine s7_0 ?_
  refine s7_1 rfl ?_
  refine s7_4 ?_
  refine s7_5 0 rfl (by decide) rfl ?_
  refine s7_6 ?_
  refine s7_7 rfl ?_
  refine s7_8 ?_
  refine s7_9 rfl ?_
  refine s7_12 ?_
  refine s7_13 rfl ?_
  refine s7_14 rfl ?_
  refine s7_17 ?_
  refine s7_18 ?_
  refine s7_19 rfl rfl ?_
  refine s7_20 rfl ?_
  refine s7_23 4 rfl (by decide) rfl ?_
  refine s7_24 rfl ?_
  refine s7_25 ?_
  refine s7_26 rfl ?_
  refine s7_28 ?_
  refine s7_29 ?_
  refine s7_31 ?_
  refine s7_32 ?_
  refine s7_33 ?_
  refine s7_34 ?_
  refine s7_35 rfl ?_
  refine s7_38 (fun h => absurd h (by decide)) (fun _ => ?_)
  refine s7_41 ?_
  refine s7_42 ?_
  refine s7_44 ?_
  refine s7_45 ?_
  refine s7_46 ?_
  refine s7_47 rfl ?_
  refine s7_49 ?_
  refine s7_51 ?_
  refine s7_52 ?_
  refine s7_53 ?_
  refine s7_54 rfl ?_
  refine s7_57 (fun h => absurd h (by decide)) (fun _ => ?_)
  refine s7_60 ?_
  refine s7_61 rfl ?_
  refine s7_64 ?_
  refine s7_66 ?_
  refine s7_67 ?_
  refine s7_68 2 rfl (by decide) rfl ?_
  refine s7_69 ?_
  refine s7_70 rfl ?_
  refine s7_73 ?_
  refine s7_75 1 rfl (by decide) rfl ?_
  refine s7_76c (fun h0 => ?_) (fun h0 => ?_)
  · refine s7_83 ?_
    refine s7_84 rfl ?_
    refine s7_87 ?_
    refine s7_89 1 rfl (by decide) rfl ?_
    refine s7_90 ?_
    refine s7_91c (fun h1 => ?_) (fun h1 => ?_)
    · refine s7_98 ?_
      refine s7_99 rfl ?_
      refine s7_102 ?_
      refine s7_104 ?_
      refine s7_105 rfl ?_
      refine s7_108 ?_
      refine s7_110 1 rfl (by decide) rfl ?_
      refine s7_111 0 rfl (by decide) rfl ?_
      refine s7_112 ?_
      refine s7_114 rfl ?_
      refine s7_116 ?_
      refine s7_28 ?_
      refine s7_29 ?_
      refine s7_31 ?_
      refine s7_32 ?_
      refine s7_33 ?_
      refine s7_34 ?_
      refine s7_35 rfl ?_
      refine s7_38 (fun h => absurd h (by decide)) (fun _ => ?_)
      refine s7_41 ?_
      refine s7_42 ?_
      refine s7_44 ?_
      refine s7_45 ?_
      refine s7_46 ?_
      refine s7_47 rfl ?_
      refine s7_49 ?_
      refine s7_51 ?_
      refine s7_52 ?_
      refine s7_53 ?_
      refine s7_54 rfl ?_
      refine s7_57 (fun _ => ?_) (fun h => absurd h (by decide))
      refine s7_83 ?_
      refine s7_84 rfl ?_
      refine s7_87 ?_
      refine s7_89 3 rfl (by decide) rfl ?_
      refine s7_90 ?_
      refine s7_91c (fun h2 => ?_) (fun h2 => ?_)
      · refine s7_98 ?_
        refine s7_99 rfl ?_
        refine s7_102 ?_
        refine s7_104 ?_
        refine s7_105 rfl ?_
        refine s7_108 ?_
        refine s7_110 3 rfl (by decide) rfl ?_
        refine s7_111 1 rfl (by decide) rfl ?_
        refine s7_112 ?_
        refine s7_114 rfl ?_
        refine s7_116 ?_
        refine s7_28 ?_
        refine s7_29 ?_
        refine s7_31 ?_
        refine s7_32 ?_
        refine s7_33 ?_
        refine s7_34 ?_
        refine s7_35 rfl ?_
        refine s7_38 (fun _ => ?_) (fun h => absurd h (by decide))
        refine s7_119 ?_
        refine s7_120 rfl ?_
        refine s7_123 ?_
        refine s7_125 ?_
        refine s7_126 3 rfl (by decide) rfl ?_
        refine s7_127 ?_
        exact s7_128 ⟨rfl, _, _, _, _, _, rfl, (by simp only [own_Hp] at *; simp only [Int64.le_iff_toInt_le, Int64.lt_iff_toInt_lt] at * <;> omega), (by simp only [own_L, List.take, List.perm_iff_count]; intro z; simp only [List.count_cons, List.count_nil] <;> omega)⟩
      · refine s7_95 ?_
        refine s7_119 ?_
        refine s7_120 rfl ?_
        refine s7_123 ?_
        refine s7_125 ?_
        refine s7_126 1 rfl (by decide) rfl ?_
        refine s7_127 ?_
        exact s7_128 ⟨rfl, _, _, _, _, _, rfl, (by simp only [own_Hp] at *; simp only [Int64.le_iff_toInt_le, Int64.lt_iff_toInt_lt] at * <;> omega), (by simp only [own_L, List.take, List.perm_iff_count]; intro z; simp only [List.count_cons, List.count_nil] <;> omega)⟩
    · refine s7_95 ?_
      refine s7_119 ?_
      refine s7_120 rfl ?_
      refine s7_123 ?_
      refine s7_125 ?_
      refine s7_126 0 rfl (by decide) rfl ?_
      refine s7_127 ?_
      exact s7_128 ⟨rfl, _, _, _, _, _, rfl, (by simp only [own_Hp] at *; simp only [Int64.le_iff_toInt_le, Int64.lt_iff_toInt_lt] at * <;> omega), (by simp only [own_L, List.take, List.perm_iff_count]; intro z; simp only [List.count_cons, List.count_nil] <;> omega)⟩
  · refine s7_80 ?_
    refine s7_83 ?_
    refine s7_84 rfl ?_
    refine s7_87 ?_
    refine s7_89 2 rfl (by decide) rfl ?_
    refine s7_90 ?_
    refine s7_91c (fun h1 => ?_) (fun h1 => ?_)
    · refine s7_98 ?_
      refine s7_99 rfl ?_
      refine s7_102 ?_
      refine s7_104 ?_
      refine s7_105 rfl ?_
      refine s7_108 ?_
      refine s7_110 2 rfl (by decide) rfl ?_
      refine s7_111 0 rfl (by decide) rfl ?_
      refine s7_112 ?_
      refine s7_114 rfl ?_
      refine s7_116 ?_
      refine s7_28 ?_
      refine s7_29 ?_
      refine s7_31 ?_
      refine s7_32 ?_
      refine s7_33 ?_
      refine s7_34 ?_
      refine s7_35 rfl ?_
      refine s7_38 (fun _ => ?_) (fun h => absurd h (by decide))
      refine s7_119 ?_
      refine s7_120 rfl ?_
      refine s7_123 ?_
      refine s7_125 ?_
      refine s7_126 2 rfl (by decide) rfl ?_
      refine s7_127 ?_
      exact s7_128 ⟨rfl, _, _, _, _, _, rfl, (by simp only [own_Hp] at *; simp only [Int64.le_iff_toInt_le, Int64.lt_iff_toInt_lt] at * <;> omega), (by simp only [own_L, List.take, List.perm_iff_count]; intro z; simp only [List.count_cons, List.count_nil] <;> omega)⟩
    · refine s7_95 ?_
      refine s7_119 ?_
      refine s7_120 rfl ?_
      refine s7_123 ?_
      refine s7_125 ?_
      refine s7_126 0 rfl (by decide) rfl ?_
      refine s7_127 ?_
      exact s7_128 ⟨rfl, _, _, _, _, _, rfl, (by simp only [own_Hp] at *; simp only [Int64.le_iff_toInt_le, Int64.lt_iff_toInt_lt] at * <;> omega), (by simp only [own_L, List.take, List.perm_iff_count]; intro z; simp only [List.count_cons, List.count_nil] <;> omega)⟩
theorem own_hp0 : own_Hp 0 0 0 0 0 0 := by simp [own_Hp]
theorem own_emp0 (c0 : ACell) (x0 x1 x2 x3 x4 : Int64) : M8 ⟨0, 0, 0, 0⟩ [.ref 1] (own_q c0 0 x0 x1 x2 x3 x4) (Is (some (.int 1)) (own_q c0 0 x0 x1 x2 x3 x4)) := by
  refine e8 ?_
  exact s8_0 (s8_1 rfl (s8_4 (fun h => absurd rfl h) (fun _ => s8_7 (s8_8 (s8_12 ⟨rfl, rfl⟩)))))
theorem own_empS (c0 : ACell) (x0 x1 x2 x3 x4 : Int64) (n : Int32) (hn : ¬ n = 0) : M8 ⟨0, 0, 0, 0⟩ [.ref 1] (own_q c0 n x0 x1 x2 x3 x4) (Is (some (.int 0)) (own_q c0 n x0 x1 x2 x3 x4)) := by
  refine e8 ?_
  exact s8_0 (s8_1 rfl (s8_4 (fun _ => s8_11 (s8_12 ⟨rfl, rfl⟩)) (fun h => absurd h hn)))
theorem own_join (k : BitVec 64) (h31 : k.getLsbD 31 = false) : (((k >>> 32).setWidth 32).signExtend 64) <<< 32 ||| (k.setWidth 32).signExtend 64 = k := by
  apply BitVec.eq_of_getLsbD_eq
  intro i hi
  rw [BitVec.getLsbD_or, BitVec.getLsbD_shiftLeft, BitVec.getLsbD_signExtend, BitVec.getLsbD_signExtend]
  have m : (k.setWidth 32).msb = false := by
    rw [BitVec.msb_eq_getLsbD_last, BitVec.getLsbD_setWidth]; show (decide (31 < 32) && k.getLsbD 31) = false; rw [h31]; rfl
  rw [m]
  by_cases h : i < 32
  · simp [h, hi]
  · have e : i - 32 < 32 := by omega
    have e' : 32 + (i - 32) = i := by omega
    have e'' : i - 32 < 64 := by omega
    simp [h, hi, e, e', e'']
theorem own_ushrB (x : Int64) : (XT.ushrL x 32).toBitVec = x.toBitVec >>> 32 := by
  have e : (XT.ushrL x 32).toBitVec = (x.toUInt64 >>> ((32 : Int32).toInt64.toUInt64 &&& Int64.toUInt64 63)).toBitVec := rfl
  rw [e, UInt64.toBitVec_shiftRight]
  show x.toBitVec >>> (((32 : Int32).toInt64.toUInt64 &&& Int64.toUInt64 63).toBitVec % 64#64).toNat = _
  have q : (((32 : Int32).toInt64.toUInt64 &&& Int64.toUInt64 63).toBitVec % 64#64).toNat = 32 := by decide
  rw [q]
theorem own_t32 (x : Int64) : x.toInt32.toBitVec = x.toBitVec.setWidth 32 := by
  show x.toBitVec.signExtend 32 = _
  exact BitVec.signExtend_eq_setWidth_of_le _ (by decide)
theorem own_shl (x : Int64) : (x <<< ((32 : Int32).toInt64 &&& 63)).toBitVec = x.toBitVec <<< 32 := by
  rw [Int64.toBitVec_shiftLeft]
  show x.toBitVec <<< (((32 : Int32).toInt64 &&& 63).toBitVec.smod 64#64).toNat = _
  have q : (((32 : Int32).toInt64 &&& 63).toBitVec.smod 64#64).toNat = 32 := by decide
  rw [q]
theorem own_key (k : Int64) (h31 : k.toBitVec.getLsbD 31 = false) : own_e (XT.ushrL k 32).toInt32 k.toInt32 = k := by
  apply Int64.toBitVec_inj.mp
  rw [own_e, Int64.toBitVec_or, own_shl]
  show ((XT.ushrL k 32).toInt32.toBitVec.signExtend 64) <<< 32 ||| k.toInt32.toBitVec.signExtend 64 = _
  rw [own_t32, own_t32, own_ushrB]
  exact own_join _ h31
theorem own_head (n : Nat) (x0 x1 x2 x3 x4 s : Int64) (S : List Int64) (hn : n = 1 ∨ n = 2 ∨ n = 3 ∨ n = 4 ∨ n = 5) (hp : own_Hp n x0 x1 x2 x3 x4) (h : (own_L n x0 x1 x2 x3 x4).Perm (s :: S)) (hs : ∀ z ∈ S, s ≤ z) : x0 = s := by
  have m1 : x0 ∈ s :: S := h.mem_iff.mp (by rcases hn with rfl | rfl | rfl | rfl | rfl <;> simp [own_L])
  have m2 : s ∈ own_L n x0 x1 x2 x3 x4 := h.mem_iff.mpr (List.mem_cons_self ..)
  have l1 : s ≤ x0 := by
    rcases List.mem_cons.mp m1 with q | q
    · rw [q, Int64.le_iff_toInt_le]; omega
    · exact hs _ q
  have l2 : x0 ≤ s := by
    simp only [own_Hp, Int64.le_iff_toInt_le] at hp ⊢
    rcases hn with rfl | rfl | rfl | rfl | rfl <;> simp only [own_L, List.take, List.mem_cons, List.not_mem_nil, or_false] at m2
    · subst m2; omega
    · rcases m2 with rfl | rfl <;> omega
    · rcases m2 with rfl | rfl | rfl <;> omega
    · rcases m2 with rfl | rfl | rfl | rfl <;> omega
    · rcases m2 with rfl | rfl | rfl | rfl | rfl <;> omega
  rw [Int64.le_iff_toInt_le] at l1 l2
  apply Int64.toInt_inj.mp; omega
def own_sw (u v x y : Int64) : Prop := (u = x ∧ v = y ∨ u = y ∧ v = x) ∧ u ≤ v
theorem own_cs0 (k0 k1 k2 k3 k4 : Int64) : M2 ⟨0, 0, 0, 0⟩ [.ref 0, .int 0, .int 1] [(.inr (.long, [.long k0, .long k1, .long k2, .long k3, .long k4]) : ACell)] (fun r H' => r = none ∧ ∃ u v, H' = [(.inr (.long, [.long u, .long v, .long k2, .long k3, .long k4]) : ACell)] ∧ own_sw u v k0 k1) := by
  refine e2 ?_
  refine s2_0 ?_
  refine s2_1 ?_
  refine s2_2 0 rfl (by decide) rfl ?_
  refine s2_3 ?_
  refine s2_4 ?_
  refine s2_5 1 rfl (by decide) rfl ?_
  refine s2_6c (fun h0 => ?_) (fun h0 => ?_)
  · exact s2_24 ⟨rfl, _, _, rfl, by simp only [own_sw, Int64.le_iff_toInt_le, Int64.lt_iff_toInt_lt] at *; simp <;> omega⟩
  · refine s2_10 ?_
    refine s2_11 ?_
    refine s2_12 0 rfl (by decide) rfl ?_
    refine s2_13 rfl ?_
    refine s2_14 ?_
    refine s2_15 ?_
    refine s2_16 ?_
    refine s2_17 ?_
    refine s2_18 1 rfl (by decide) rfl ?_
    refine s2_19 0 rfl (by decide) rfl ?_
    refine s2_20 ?_
    refine s2_21 ?_
    refine s2_22 ?_
    refine s2_23 1 rfl (by decide) rfl ?_
    exact s2_24 ⟨rfl, _, _, rfl, by simp only [own_sw, Int64.le_iff_toInt_le, Int64.lt_iff_toInt_lt] at *; simp <;> omega⟩
theorem own_cs1 (k0 k1 k2 k3 k4 : Int64) : M2 ⟨0, 0, 0, 0⟩ [.ref 0, .int 1, .int 2] [(.inr (.long, [.long k0, .long k1, .long k2, .long k3, .long k4]) : ACell)] (fun r H' => r = none ∧ ∃ u v, H' = [(.inr (.long, [.long k0, .long u, .long v, .long k3, .long k4]) : ACell)] ∧ own_sw u v k1 k2) := by
  refine e2 ?_
  refine s2_0 ?_
  refine s2_1 ?_
  refine s2_2 1 rfl (by decide) rfl ?_
  refine s2_3 ?_
  refine s2_4 ?_
  refine s2_5 2 rfl (by decide) rfl ?_
  refine s2_6c (fun h0 => ?_) (fun h0 => ?_)
  · exact s2_24 ⟨rfl, _, _, rfl, by simp only [own_sw, Int64.le_iff_toInt_le, Int64.lt_iff_toInt_lt] at *; simp <;> omega⟩
  · refine s2_10 ?_
    refine s2_11 ?_
    refine s2_12 1 rfl (by decide) rfl ?_
    refine s2_13 rfl ?_
    refine s2_14 ?_
    refine s2_15 ?_
    refine s2_16 ?_
    refine s2_17 ?_
    refine s2_18 2 rfl (by decide) rfl ?_
    refine s2_19 1 rfl (by decide) rfl ?_
    refine s2_20 ?_
    refine s2_21 ?_
    refine s2_22 ?_
    refine s2_23 2 rfl (by decide) rfl ?_
    exact s2_24 ⟨rfl, _, _, rfl, by simp only [own_sw, Int64.le_iff_toInt_le, Int64.lt_iff_toInt_lt] at *; simp <;> omega⟩
theorem own_cs2 (k0 k1 k2 k3 k4 : Int64) : M2 ⟨0, 0, 0, 0⟩ [.ref 0, .int 2, .int 3] [(.inr (.long, [.long k0, .long k1, .long k2, .long k3, .long k4]) : ACell)] (fun r H' => r = none ∧ ∃ u v, H' = [(.inr (.long, [.long k0, .long k1, .long u, .long v, .long k4]) : ACell)] ∧ own_sw u v k2 k3) := by
  refine e2 ?_
  refine s2_0 ?_
  refine s2_1 ?_
  refine s2_2 2 rfl (by decide) rfl ?_
  refine s2_3 ?_
  refine s2_4 ?_
  refine s2_5 3 rfl (by decide) rfl ?_
  refine s2_6c (fun h0 => ?_) (fun h0 => ?_)
  · exact s2_24 ⟨rfl, _, _, rfl, by simp only [own_sw, Int64.le_iff_toInt_le, Int64.lt_iff_toInt_lt] at *; simp <;> omega⟩
  · refine s2_10 ?_
    refine s2_11 ?_
    refine s2_12 2 rfl (by decide) rfl ?_
    refine s2_13 rfl ?_
    refine s2_14 ?_
    refine s2_15 ?_
    refine s2_16 ?_
    refine s2_17 ?_
    refine s2_18 3 rfl (by decide) rfl ?_
    refine s2_19 2 rfl (by decide) rfl ?_
    refine s2_20 ?_
    refine s2_21 ?_
    refine s2_22 ?_
    refine s2_23 3 rfl (by decide) rfl ?_
    exact s2_24 ⟨rfl, _, _, rfl, by simp only [own_sw, Int64.le_iff_toInt_le, Int64.lt_iff_toInt_lt] at *; simp <;> omega⟩
theorem own_cs3 (k0 k1 k2 k3 k4 : Int64) : M2 ⟨0, 0, 0, 0⟩ [.ref 0, .int 3, .int 4] [(.inr (.long, [.long k0, .long k1, .long k2, .long k3, .long k4]) : ACell)] (fun r H' => r = none ∧ ∃ u v, H' = [(.inr (.long, [.long k0, .long k1, .long k2, .long u, .long v]) : ACell)] ∧ own_sw u v k3 k4) := by
  refine e2 ?_
  refine s2_0 ?_
  refine s2_1 ?_
  refine s2_2 3 rfl (by decide) rfl ?_
  refine s2_3 ?_
  refine s2_4 ?_
  refine s2_5 4 rfl (by decide) rfl ?_
  refine s2_6c (fun h0 => ?_) (fun h0 => ?_)
  · exact s2_24 ⟨rfl, _, _, rfl, by simp only [own_sw, Int64.le_iff_toInt_le, Int64.lt_iff_toInt_lt] at *; simp <;> omega⟩
  · refine s2_10 ?_
    refine s2_11 ?_
    refine s2_12 3 rfl (by decide) rfl ?_
    refine s2_13 rfl ?_
    refine s2_14 ?_
    refine s2_15 ?_
    refine s2_16 ?_
    refine s2_17 ?_
    refine s2_18 4 rfl (by decide) rfl ?_
    refine s2_19 3 rfl (by decide) rfl ?_
    refine s2_20 ?_
    refine s2_21 ?_
    refine s2_22 ?_
    refine s2_23 4 rfl (by decide) rfl ?_
    exact s2_24 ⟨rfl, _, _, rfl, by simp only [own_sw, Int64.le_iff_toInt_le, Int64.lt_iff_toInt_lt] at *; simp <;> omega⟩
theorem own_p1 {k0 k1 k2 k3 k4 a0 a1 b1 b2 c2 c3 d3 d4 : Int64} (h1 : own_sw a0 a1 k0 k1) (h2 : own_sw b1 b2 a1 k2) (h3 : own_sw c2 c3 b2 k3) (h4 : own_sw d3 d4 c3 k4) : a0 ≤ d4 ∧ b1 ≤ d4 ∧ c2 ≤ d4 ∧ d3 ≤ d4 ∧ [k4, k3, k2, k1, k0].Perm [a0, b1, c2, d3, d4] := by
  obtain ⟨h1, l1⟩ := h1; obtain ⟨h2, l2⟩ := h2; obtain ⟨h3, l3⟩ := h3; obtain ⟨h4, l4⟩ := h4
  rcases h1 with ⟨rfl, rfl⟩ | ⟨rfl, rfl⟩ <;> rcases h2 with ⟨rfl, rfl⟩ | ⟨rfl, rfl⟩ <;> rcases h3 with ⟨rfl, rfl⟩ | ⟨rfl, rfl⟩ <;> rcases h4 with ⟨rfl, rfl⟩ | ⟨rfl, rfl⟩ <;>
  · simp only [Int64.le_iff_toInt_le] at *
    refine ⟨by omega, by omega, by omega, by omega, ?_⟩
    simp only [List.perm_iff_count]; intro z; simp only [List.count_cons, List.count_nil] <;> omega
theorem own_p2 {a0 b1 c2 d3 d4 e0 e1 f1 f2 g2 g3 : Int64} (o0 : a0 ≤ d4) (o1 : b1 ≤ d4) (o2 : c2 ≤ d4) (o3 : d3 ≤ d4) (h1 : own_sw e0 e1 a0 b1) (h2 : own_sw f1 f2 e1 c2) (h3 : own_sw g2 g3 f2 d3) : e0 ≤ g3 ∧ f1 ≤ g3 ∧ g2 ≤ g3 ∧ g3 ≤ d4 ∧ [a0, b1, c2, d3, d4].Perm [e0, f1, g2, g3, d4] := by
  obtain ⟨h1, l1⟩ := h1; obtain ⟨h2, l2⟩ := h2; obtain ⟨h3, l3⟩ := h3
  rcases h1 with ⟨rfl, rfl⟩ | ⟨rfl, rfl⟩ <;> rcases h2 with ⟨rfl, rfl⟩ | ⟨rfl, rfl⟩ <;> rcases h3 with ⟨rfl, rfl⟩ | ⟨rfl, rfl⟩ <;>
  · simp only [Int64.le_iff_toInt_le] at *
    refine ⟨by omega, by omega, by omega, by omega, ?_⟩
    simp only [List.perm_iff_count]; intro z; simp only [List.count_cons, List.count_nil] <;> omega
theorem own_p3 {e0 f1 g2 g3 d4 h0 h1' i1 i2 : Int64} (o0 : e0 ≤ g3) (o1 : f1 ≤ g3) (o2 : g2 ≤ g3) (o3 : g3 ≤ d4) (h1 : own_sw h0 h1' e0 f1) (h2 : own_sw i1 i2 h1' g2) : h0 ≤ i2 ∧ i1 ≤ i2 ∧ i2 ≤ g3 ∧ g3 ≤ d4 ∧ [e0, f1, g2, g3, d4].Perm [h0, i1, i2, g3, d4] := by
  obtain ⟨h1, l1⟩ := h1; obtain ⟨h2, l2⟩ := h2
  rcases h1 with ⟨rfl, rfl⟩ | ⟨rfl, rfl⟩ <;> rcases h2 with ⟨rfl, rfl⟩ | ⟨rfl, rfl⟩ <;>
  · simp only [Int64.le_iff_toInt_le] at *
    refine ⟨by omega, by omega, by omega, by omega, ?_⟩
    simp only [List.perm_iff_count]; intro z; simp only [List.count_cons, List.count_nil] <;> omega
theorem own_p4 {h0 i1 i2 g3 d4 j0 j1 : Int64} (o0 : h0 ≤ i2) (o1 : i1 ≤ i2) (o2 : i2 ≤ g3) (o3 : g3 ≤ d4) (h1 : own_sw j0 j1 h0 i1) : j0 ≤ j1 ∧ j1 ≤ i2 ∧ i2 ≤ g3 ∧ g3 ≤ d4 ∧ [h0, i1, i2, g3, d4].Perm [j0, j1, i2, g3, d4] := by
  obtain ⟨h1, l1⟩ := h1
  rcases h1 with ⟨rfl, rfl⟩ | ⟨rfl, rfl⟩ <;>
  · simp only [Int64.le_iff_toInt_le] at *
    refine ⟨by omega, by omega, by omega, by omega, ?_⟩
    simp only [List.perm_iff_count]; intro z; simp only [List.count_cons, List.count_nil] <;> omega
theorem own_31 (x : Int32) (h : x.toBitVec.getLsbD 31 = false) (st : Int32) : (own_e st x).toBitVec.getLsbD 31 = false := by
  rw [own_e, Int64.toBitVec_or, own_shl, BitVec.getLsbD_or, BitVec.getLsbD_shiftLeft]
  show (_ || (x.toBitVec.signExtend 64).getLsbD 31) = false
  rw [BitVec.getLsbD_signExtend]
  have h' : x.toBitVec[31] = false := by rw [← BitVec.getLsbD_eq_getElem]; exact h
  simp [h']
theorem own_a31 (x m : Int32) (h : m.toBitVec.getLsbD 31 = false) : (x &&& m).toBitVec.getLsbD 31 = false := by
  rw [Int32.toBitVec_and, BitVec.getLsbD_and, h, Bool.and_false]
def own_KQ (H : AHeap) (v : Option Value) (H' : AHeap) : Prop := H' = H ∧ ∃ k : Int64, v = some (.long k) ∧ k.toBitVec.getLsbD 31 = false
theorem own_keyM (x : Int64) (f i : Int32) (H : AHeap) : M1 ⟨0, 0, 0, 0⟩ [.long x, .int f, .int i] H (own_KQ H) := by
  refine e1 ?_
  have fin : ∀ st sv : Int32, sv.toBitVec.getLsbD 31 = false → W1 ⟨0, 0, 0, 0⟩ 47 [.val (.long x), .second, .val (.int f), .val (.int i), .val (.int st), .val (.int sv)] [] H (own_KQ H) := fun st sv hv => by
    refine s1_47 ?_
    refine s1_49 ?_
    refine s1_50 ?_
    refine s1_52 ?_
    refine s1_53 ?_
    refine s1_55 ?_
    refine s1_56 ?_
    exact s1_57 ⟨rfl, _, rfl, own_31 sv hv st⟩
  have mid : ∀ st : Int32, W1 ⟨0, 0, 0, 0⟩ 31 [.val (.long x), .second, .val (.int f), .val (.int i), .val (.int st), .val (.int (x.toInt32 &&& 2147483647))] [] H (own_KQ H) := fun st => by
    refine s1_31 ?_
    refine s1_32 ?_
    refine s1_33 ?_
    refine s1_34 ?_
    refine s1_35 ?_
    refine s1_36 ?_
    refine s1_37 ?_
    refine s1_38 (fun _ => fin _ _ (own_a31 _ _ (by decide))) (fun _ => ?_)
    refine s1_41 ?_
    refine s1_43 ?_
    refine s1_44 ?_
    refine s1_45 rfl ?_
    exact fin _ _ (own_a31 _ _ (by decide))
  refine s1_0 ?_
  refine s1_1 ?_
  refine s1_3 ?_
  refine s1_4 ?_
  refine s1_5 ?_
  refine s1_7 ?_
  refine s1_8 rfl ?_
  refine s1_10 ?_
  refine s1_11 ?_
  refine s1_12 ?_
  refine s1_14 ?_
  refine s1_15 rfl ?_
  refine s1_17 ?_
  refine s1_18 ?_
  refine s1_19 ?_
  refine s1_20 ?_
  refine s1_21 ?_
  refine s1_22 (fun _ => mid _) (fun _ => ?_)
  refine s1_25 ?_
  refine s1_27 ?_
  refine s1_28 ?_
  refine s1_29 rfl ?_
  exact mid _
theorem own_low (k : Int64) : (k &&& 4294967295).toInt32 = k.toInt32 := by
  apply Int32.toBitVec_inj.mp
  rw [own_t32, own_t32, Int64.toBitVec_and]
  apply BitVec.eq_of_getLsbD_eq
  intro i hi
  rw [BitVec.getLsbD_setWidth, BitVec.getLsbD_setWidth, BitVec.getLsbD_and]
  have q : ∀ j : Fin 32, (4294967295 : Int64).toBitVec.getLsbD j = true := by decide
  have q' := q ⟨i, hi⟩
  rw [q', Bool.and_true]
theorem own_init (c0 : ACell) : M3 ⟨1, 1, 16, 12⟩ [.ref 1] [c0, (.inl (0, [.null, .int 0]) : ACell)] (Is none (own_q c0 0 0 0 0 0 0)) := by
  refine e3 ?_
  refine s3_0 ?_
  refine s3_1 rfl ?_
  refine s3_4 ?_
  refine s3_5 ?_
  refine s3_7 2 16 (by decide) rfl rfl ?_
  refine s3_9 rfl ?_
  exact s3_12 ⟨rfl, rfl⟩
theorem own_st (k : Int64) (H : AHeap) : M4 ⟨0, 0, 0, 0⟩ [.long k] H (Is (some (.int (XT.ushrL k 32).toInt32)) H) := by
  refine e4 ?_
  refine s4_0 ?_
  refine s4_1 ?_
  refine s4_3 ?_
  refine s4_4 ?_
  exact s4_5 ⟨rfl, rfl⟩
theorem own_sv (k : Int64) (H : AHeap) : M5 ⟨0, 0, 0, 0⟩ [.long k] H (Is (some (.int k.toInt32)) H) := by
  refine e5 ?_
  refine s5_0 ?_
  refine s5_1 ?_
  refine s5_4 (s5_5 ?_)
  rw [own_low]
  exact s5_6 ⟨rfl, rfl⟩
set_option maxHeartbeats 16000000 in
theorem law_ok (a b c d e : Int64) (f : Int32) : M0 room_1 [.long a, .long b, .long c, .long d, .long e, .int f] [] (fun r _ => r = some (.int 1)) := by
  refine e0 ?_
  refine s0_0 ?_
  refine s0_1 ?_
  refine s0_3 ?_
  refine s0_4q (own_keyM _ _ _ _) rfl (fun v H' q => ?_)
  obtain ⟨rfl, k0, rfl, b0⟩ := q
  have hk0 := own_key k0 b0
  refine s0_7 rfl ?_
  refine s0_9 ?_
  refine s0_10 ?_
  refine s0_12 ?_
  refine s0_13q (own_keyM _ _ _ _) rfl (fun v H' q => ?_)
  obtain ⟨rfl, k1, rfl, b1⟩ := q
  have hk1 := own_key k1 b1
  refine s0_16 rfl ?_
  refine s0_18 ?_
  refine s0_20 ?_
  refine s0_22 ?_
  refine s0_23q (own_keyM _ _ _ _) rfl (fun v H' q => ?_)
  obtain ⟨rfl, k2, rfl, b2⟩ := q
  have hk2 := own_key k2 b2
  refine s0_26 rfl ?_
  refine s0_28 ?_
  refine s0_30 ?_
  refine s0_32 ?_
  refine s0_33q (own_keyM _ _ _ _) rfl (fun v H' q => ?_)
  obtain ⟨rfl, k3, rfl, b3⟩ := q
  have hk3 := own_key k3 b3
  refine s0_36 rfl ?_
  refine s0_38 ?_
  refine s0_40 ?_
  refine s0_42 ?_
  refine s0_43q (own_keyM _ _ _ _) rfl (fun v H' q => ?_)
  obtain ⟨rfl, k4, rfl, b4⟩ := q
  have hk4 := own_key k4 b4
  refine s0_46 rfl ?_
  refine s0_48 ?_
  refine s0_49 0 5 (by decide) rfl rfl ?_
  refine s0_51 rfl ?_
  refine s0_52 ?_
  refine s0_53 ?_
  refine s0_55 0 rfl (by decide) rfl ?_
  refine s0_56 rfl ?_
  refine s0_57 ?_
  refine s0_58 ?_
  refine s0_60 1 rfl (by decide) rfl ?_
  refine s0_61 rfl ?_
  refine s0_62 ?_
  refine s0_63 ?_
  refine s0_65 2 rfl (by decide) rfl ?_
  refine s0_66 rfl ?_
  refine s0_67 ?_
  refine s0_68 ?_
  refine s0_70 3 rfl (by decide) rfl ?_
  refine s0_71 rfl ?_
  refine s0_72 ?_
  refine s0_73 ?_
  refine s0_75 4 rfl (by decide) rfl ?_
  refine s0_76 rfl ?_
  refine s0_78 ?_
  refine s0_80 ?_
  refine s0_81 ?_
  refine s0_82q (own_cs0 k0 k1 k2 k3 k4) rfl (fun v H' q => ?_)
  obtain ⟨rfl, a0, a1, rfl, w0⟩ := q
  refine s0_85 ?_
  refine s0_87 ?_
  refine s0_88 ?_
  refine s0_89q (own_cs1 a0 a1 k2 k3 k4) rfl (fun v H' q => ?_)
  obtain ⟨rfl, b1, b2, rfl, w1⟩ := q
  refine s0_92 ?_
  refine s0_94 ?_
  refine s0_95 ?_
  refine s0_96q (own_cs2 a0 b1 b2 k3 k4) rfl (fun v H' q => ?_)
  obtain ⟨rfl, c2, c3, rfl, w2⟩ := q
  refine s0_99 ?_
  refine s0_101 ?_
  refine s0_102 ?_
  refine s0_103q (own_cs3 a0 b1 c2 c3 k4) rfl (fun v H' q => ?_)
  obtain ⟨rfl, d3, d4, rfl, w3⟩ := q
  refine s0_106 ?_
  refine s0_108 ?_
  refine s0_109 ?_
  refine s0_110q (own_cs0 a0 b1 c2 d3 d4) rfl (fun v H' q => ?_)
  obtain ⟨rfl, e0', e1', rfl, w4⟩ := q
  refine s0_113 ?_
  refine s0_115 ?_
  refine s0_116 ?_
  refine s0_117q (own_cs1 e0' e1' c2 d3 d4) rfl (fun v H' q => ?_)
  obtain ⟨rfl, f1, f2, rfl, w5⟩ := q
  refine s0_120 ?_
  refine s0_122 ?_
  refine s0_123 ?_
  refine s0_124q (own_cs2 e0' f1 f2 d3 d4) rfl (fun v H' q => ?_)
  obtain ⟨rfl, g2, g3, rfl, w6⟩ := q
  refine s0_127 ?_
  refine s0_129 ?_
  refine s0_130 ?_
  refine s0_131q (own_cs0 e0' f1 g2 g3 d4) rfl (fun v H' q => ?_)
  obtain ⟨rfl, h0, h1, rfl, w7⟩ := q
  refine s0_134 ?_
  refine s0_136 ?_
  refine s0_137 ?_
  refine s0_138q (own_cs1 h0 h1 g2 g3 d4) rfl (fun v H' q => ?_)
  obtain ⟨rfl, i1, i2, rfl, w8⟩ := q
  refine s0_141 ?_
  refine s0_143 ?_
  refine s0_144 ?_
  refine s0_145q (own_cs0 h0 i1 i2 g3 d4) rfl (fun v H' q => ?_)
  obtain ⟨rfl, j0, j1, rfl, w9⟩ := q
  refine s0_148 1 rfl rfl ?_
  refine s0_151 rfl ?_
  obtain ⟨q0, q1, q2, q3, pA⟩ := own_p1 w0 w1 w2 w3
  obtain ⟨q4, q5, q6, q7, pB⟩ := own_p2 q0 q1 q2 q3 w4 w5 w6
  obtain ⟨q8, q9, q10, q11, pC⟩ := own_p3 q4 q5 q6 q7 w7 w8
  obtain ⟨o1, o2, o3, o4, pD⟩ := own_p4 q8 q9 q10 q11 w9
  have pm := ((pA.trans pB).trans pC).trans pD
  clear q0 q1 q2 q3 q4 q5 q6 q7 q8 q9 q10 q11 w0 w1 w2 w3 w4 w5 w6 w7 w8 w9 pA pB pC pD
  refine s0_152 (own_init _) rfl ?_
  refine s0_155 rfl ?_
  refine s0_157 ?_
  refine s0_159 ?_
  refine s0_161 (own_st _ _) rfl ?_
  refine s0_164 ?_
  refine s0_166 (own_sv _ _) rfl ?_
  refine s0_169q rfl (own_add0 _ _ _ _ _ _ _ _ own_hp0) rfl (fun v H' q => ?_)
  obtain ⟨rfl, x00, x01, x02, x03, x04, rfl, hp0, pm0⟩ := q
  rw [hk0] at pm0
  refine s0_172 ?_
  refine s0_174 ?_
  refine s0_176 (own_st _ _) rfl ?_
  refine s0_179 ?_
  refine s0_181 (own_sv _ _) rfl ?_
  refine s0_184q rfl (own_add1 _ _ _ _ _ _ _ _ hp0) rfl (fun v H' q => ?_)
  obtain ⟨rfl, x10, x11, x12, x13, x14, rfl, hp1, pm1⟩ := q
  rw [hk1] at pm1
  refine s0_187 ?_
  refine s0_189 ?_
  refine s0_191 (own_st _ _) rfl ?_
  refine s0_194 ?_
  refine s0_196 (own_sv _ _) rfl ?_
  refine s0_199q rfl (own_add2 _ _ _ _ _ _ _ _ hp1) rfl (fun v H' q => ?_)
  obtain ⟨rfl, x20, x21, x22, x23, x24, rfl, hp2, pm2⟩ := q
  rw [hk2] at pm2
  refine s0_202 ?_
  refine s0_204 ?_
  refine s0_206 (own_st _ _) rfl ?_
  refine s0_209 ?_
  refine s0_211 (own_sv _ _) rfl ?_
  refine s0_214q rfl (own_add3 _ _ _ _ _ _ _ _ hp2) rfl (fun v H' q => ?_)
  obtain ⟨rfl, x30, x31, x32, x33, x34, rfl, hp3, pm3⟩ := q
  rw [hk3] at pm3
  refine s0_217 ?_
  refine s0_219 ?_
  refine s0_221 (own_st _ _) rfl ?_
  refine s0_224 ?_
  refine s0_226 (own_sv _ _) rfl ?_
  refine s0_229q rfl (own_add4 _ _ _ _ _ _ _ _ hp3) rfl (fun v H' q => ?_)
  obtain ⟨rfl, x40, x41, x42, x43, x44, rfl, hp4, pm4⟩ := q
  rw [hk4] at pm4
  have p5 : (own_L 5 x40 x41 x42 x43 x44).Perm [j0, j1, i2, g3, d4] := (pm4.trans ((pm3.trans ((pm2.trans ((pm1.trans (pm0.cons k1)).cons k2)).cons k3)).cons k4)).trans pm
  simp only [Int64.le_iff_toInt_le] at o1 o2 o3 o4
  have t0 : x40 = j0 := own_head 5 _ _ _ _ _ _ _ (by decide) hp4 p5 (by simp only [List.mem_cons, List.not_mem_nil, or_false, Int64.le_iff_toInt_le]; rintro z (rfl | rfl | rfl | rfl) <;> omega)
  obtain rfl := t0
  refine s0_232 ?_
  refine s0_234q rfl (own_poll5 _ _ _ _ _ _ hp4) rfl (fun v H' q => ?_)
  obtain ⟨rfl, y00, y01, y02, y03, y04, rfl, hq0, pq0⟩ := q
  have r0 : (own_L 4 y00 y01 y02 y03 y04).Perm [j1, i2, g3, d4] := (pq0.trans p5).cons_inv
  have t1 : y00 = j1 := own_head 4 _ _ _ _ _ _ _ (by decide) hq0 r0 (by simp only [List.mem_cons, List.not_mem_nil, or_false, Int64.le_iff_toInt_le]; rintro z (rfl | rfl | rfl) <;> omega)
  obtain rfl := t1
  refine s0_237 rfl ?_
  refine s0_239 ?_
  refine s0_241q rfl (own_poll4 _ _ _ _ _ _ hq0) rfl (fun v H' q => ?_)
  obtain ⟨rfl, y10, y11, y12, y13, y14, rfl, hq1, pq1⟩ := q
  have r1 : (own_L 3 y10 y11 y12 y13 y14).Perm [i2, g3, d4] := (pq1.trans r0).cons_inv
  have t2 : y10 = i2 := own_head 3 _ _ _ _ _ _ _ (by decide) hq1 r1 (by simp only [List.mem_cons, List.not_mem_nil, or_false, Int64.le_iff_toInt_le]; rintro z (rfl | rfl) <;> omega)
  obtain rfl := t2
  refine s0_244 rfl ?_
  refine s0_246 ?_
  refine s0_248q rfl (own_poll3 _ _ _ _ _ _ hq1) rfl (fun v H' q => ?_)
  obtain ⟨rfl, y20, y21, y22, y23, y24, rfl, hq2, pq2⟩ := q
  have r2 : (own_L 2 y20 y21 y22 y23 y24).Perm [g3, d4] := (pq2.trans r1).cons_inv
  have t3 : y20 = g3 := own_head 2 _ _ _ _ _ _ _ (by decide) hq2 r2 (by simp only [List.mem_cons, List.not_mem_nil, or_false, Int64.le_iff_toInt_le]; rintro z rfl; omega)
  obtain rfl := t3
  refine s0_251 rfl ?_
  refine s0_253 ?_
  refine s0_255q rfl (own_poll2 _ _ _ _ _ _ hq2) rfl (fun v H' q => ?_)
  obtain ⟨rfl, y30, y31, y32, y33, y34, rfl, hq3, pq3⟩ := q
  have r3 : (own_L 1 y30 y31 y32 y33 y34).Perm [d4] := (pq3.trans r2).cons_inv
  have t4 : y30 = d4 := own_head 1 _ _ _ _ _ _ _ (by decide) hq3 r3 (by simp only [List.not_mem_nil]; rintro z q; exact absurd q id)
  obtain rfl := t4
  refine s0_258 rfl ?_
  refine s0_260 ?_
  refine s0_262q rfl (own_poll1 _ _ _ _ _ _ hq3) rfl (fun v H' q => ?_)
  obtain ⟨rfl, y40, y41, y42, y43, y44, rfl, hq4, pq4⟩ := q
  refine s0_265 rfl ?_
  refine s0_267 ?_
  refine s0_269 ?_
  refine s0_271 ?_
  refine s0_272 0 rfl (by decide) rfl ?_
  refine s0_273 (own_sv _ _) rfl ?_
  refine s0_276 (fun h => absurd rfl h) (fun _ => ?_)
  refine s0_279 ?_
  refine s0_281 ?_
  refine s0_283 ?_
  refine s0_284 1 rfl (by decide) rfl ?_
  refine s0_285 (own_sv _ _) rfl ?_
  refine s0_288 (fun h => absurd rfl h) (fun _ => ?_)
  refine s0_291 ?_
  refine s0_293 ?_
  refine s0_295 ?_
  refine s0_296 2 rfl (by decide) rfl ?_
  refine s0_297 (own_sv _ _) rfl ?_
  refine s0_300 (fun h => absurd rfl h) (fun _ => ?_)
  refine s0_303 ?_
  refine s0_305 ?_
  refine s0_307 ?_
  refine s0_308 3 rfl (by decide) rfl ?_
  refine s0_309 (own_sv _ _) rfl ?_
  refine s0_312 (fun h => absurd rfl h) (fun _ => ?_)
  refine s0_315 ?_
  refine s0_317 ?_
  refine s0_319 ?_
  refine s0_320 4 rfl (by decide) rfl ?_
  refine s0_321 (own_sv _ _) rfl ?_
  refine s0_324 (fun h => absurd rfl h) (fun _ => ?_)
  refine s0_327 ?_
  refine s0_329 rfl (own_emp0 _ _ _ _ _ _) rfl ?_
  refine s0_332 (fun h => absurd h (by decide)) (fun _ => ?_)
  refine s0_335 ?_
  refine s0_336 ?_
  exact s0_340 rfl
set_option maxRecDepth 65536 in
set_option maxHeartbeats 4000000 in
theorem comes_1 {Post : Tables → Env → Array Value → State → Outcome → State → Prop} (hpost : ∀ tb e args s v u, (limb_1_1.after args s (.returned v) u = true ∧ limb_1_2.after args s (.returned v) u = true ∧ True) → FrameEnd s (.returned v) u (Jvm.fieldLocs frame_1_writes args s ++ Jvm.arrayLocs frame_1_arrays args s ++ Jvm.staticLocs frame_1_statics s) 16 128 → Post tb e args s (.returned v) u) :
    ArmFor flags0 classFile x code maxLocals ret World_1 tables_1 room_1 Calls_1 rest_1 Pre_1 Post := by
  intro l hfl _ _ p e ha hc hk s m args below hf hA hF happ hP
  obtain ⟨hcalls, hrest, hpre⟩ := hP
  obtain ⟨-, -, -, hnamed, -, -, -, hat⟩ := (Spec.applies_iff hf).mp happ
  obtain ⟨hg, hn⟩ := and_e (Cond.before_iff.mp (show (Jvm.Cond.and given_1 narrow_1).before args s = true from hpre))
  obtain ⟨hg0, hg⟩ := and_e hg
  obtain ⟨hk0, hg⟩ := and_e hg
  obtain ⟨hk1, hg⟩ := and_e hg
  obtain ⟨hk2, hg⟩ := and_e hg
  obtain ⟨hk3, hg⟩ := and_e hg
  obtain ⟨hk4, hg⟩ := and_e hg
  have hk5 := hg
  obtain ⟨w0, w1, w2, w3, w4, w5, rfl⟩ : ∃ w0 w1 w2 w3 w4 w5 : Value, args = #[w0, w1, w2, w3, w4, w5] := by
    have hs : args.size = 6 := by simpa [Cond.value, given_1] using hg0
    obtain ⟨L⟩ := args
    match L, hs with
    | [w0, w1, w2, w3, w4, w5], _ => exact ⟨w0, w1, w2, w3, w4, w5, rfl⟩
  have hw := fun d (hd : d ∈ tables_1) => atoms_spec (ws := Jvm.Cond.code x code maxLocals ret :: tables_1) hat d (List.mem_cons_of_mem _ hd)
  obtain ⟨i0, e0⟩ := isL_v hk0
  obtain rfl : w0 = (.long i0) := Option.some.inj e0
  obtain ⟨i1, e1⟩ := isL_v hk1
  obtain rfl : w1 = (.long i1) := Option.some.inj e1
  obtain ⟨i2, e2⟩ := isL_v hk2
  obtain rfl : w2 = (.long i2) := Option.some.inj e2
  obtain ⟨i3, e3⟩ := isL_v hk3
  obtain rfl : w3 = (.long i3) := Option.some.inj e3
  obtain ⟨i4, e4⟩ := isL_v hk4
  obtain rfl : w4 = (.long i4) := Option.some.inj e4
  obtain ⟨i5, e5⟩ := is_v hk5
  obtain rfl : w5 = (.int i5) := Option.some.inj e5
  obtain ⟨n, o, h1, h2, h3, _, L, rfl, ⟨v', H', rfl, hR, rfl, N⟩, hq⟩ := law_ok i0 i1 i2 i3 i4 i5 s _ hw l s.heap tables_1 (Rel.start s KT) p e ha hc hk s m _ below hf ((Spec.applies_iff_loose hf).mp happ).1 ⟨rfl, State.Warmed39.refl s, rfl⟩ trivial
  refine ⟨n, _, h1, h2, h3, hpost _ _ _ _ _ _ ⟨Cond.after_iff.mpr rfl, Cond.after_iff.mpr (eq_i res_at (Term.int_eval (1)) rfl), trivial⟩ ⟨hq.1, hq.2.1, (hq.2.2.sift fun y hy => Or.inr (N y hy)).mono (by decide) (by decide)⟩⟩
theorem main_1_1 : Claimed_1_1 := comes_1 fun _ _ _ _ _ _ h hF => ⟨h.1, hF⟩
theorem main_1_2 : Claimed_1_2 := comes_1 fun _ _ _ _ _ _ h hF => ⟨h.2.1, hF⟩
end Jvm.Pilot.@@N@@
namespace Jvm.Pilot.@@N@@
open Jvm Jvm.ClassFile Sem Op Lib Jvm.Free Jvm.Stand Jvm.Pilot.@@N@@.Jvm.D
/-! MADE BY PROGRAM (witnessworld.py) out of the Statement's table words and the real class files: 11 classes; the members and pool entries that the words name. The judged class is class 1, her method 5. -/
namespace start1
open Jvm.ClassFile
def u (s : String) : CpInfo := .utf8 (stringToUtf16 s)
/-- a pool by its gaps: so many unusable entries, then the entry; so many at the end -/
def gap : Nat → List CpInfo → List CpInfo
  | 0, r => r
  | n + 1, r => .unusable :: gap n r
def poolList (es : List (Nat × CpInfo)) (last : Nat) : List CpInfo := es.foldr (fun e r => gap e.1 (e.2 :: r)) (gap last [])
def pool (es : List (Nat × CpInfo)) (last : Nat) : Array CpInfo := ⟨poolList es last⟩
def fileOf (pool : Array CpInfo) (this : Nat) (attrs : Array Attribute := #[]) (ms : Array MethodInfo := #[]) (fl : Nat := 33) (sup : Nat := 0) (ifs : Array Nat := #[]) (fds : Array FieldInfo := #[]) : ClassFile where
  minorVersion := 0
  majorVersion := 65
  constantPool := pool
  accessFlags := fl
  thisClass := this
  superClass := sup
  interfaces := ifs
  fields := fds
  methods := ms
  attributes := attrs
def plain (name : String) (sup : Option ClassId) : Class where
  name := name
  kind := .ordinary
  loader := none
  accessFlags := 33
  super := sup
  interfaces := #[]
  cf := none
  fields := #[]
  methods := #[]
  instanceTypes := #[]
  staticTypes := #[]
  resolved := #[]
  callSites := []
  init := .initialized
  statics := none
  mirror := none

def pool0 : Array CpInfo := pool [(5, u "<init>"), (0, u "()V"), (1, .class_ 10), (1, u "java/lang/Object")] 113

def k0c0 : Code := { maxStack := 0, maxLocals := 1, code := object_method_1_code, exceptionTable := #[], attributes := #[] }
def k0m0 : Method := { name := "<init>", desc := "()V", sig := { parameters := [], returnType := none }, accessFlags := 1, code := some k0c0 }
/-- java/lang/Object -/
def k0 : Class := { plain "java/lang/Object" none with
  accessFlags := 33
  interfaces := #[]
  cf := some (fileOf pool0 8 #[] #[{ accessFlags := 1, nameIndex := 5, descriptorIndex := 6, attributes := #[] }] 33 0 #[] #[])
  fields := #[]
  methods := #[k0m0]
  instanceTypes := #[]
  staticTypes := #[]
  resolved := Array.replicate 124 none
  statics := none }

def pool1 : Array CpInfo := pool [(2, .class_ 4), (0, .nameAndType 5 6), (0, u "java/lang/Object"), (0, u "<init>"), (0, u "()V"), (0, .integer 2147483647), (0, .long 4294967295), (1, .methodref 11 12), (0, .class_ 13), (0, .nameAndType 14 15), (0, u "com/example/chainwright/chainwright/core/StageQueuePollPinLaw"), (0, u "key"), (0, u "(JII)J"), (0, .methodref 11 17), (0, .nameAndType 18 19), (0, u "cs"), (0, u "([JII)V"), (0, .class_ 21), (0, u "com/example/chainwright/chainwright/core/StageQueue"), (0, .methodref 20 3), (0, .methodref 11 24), (0, .nameAndType 25 26), (0, u "stageOf"), (0, u "(J)I"), (0, .methodref 11 28), (0, .nameAndType 29 26), (0, u "serviceOf"), (0, .methodref 20 31), (0, .nameAndType 32 33), (0, u "add"), (0, u "(II)V"), (0, .methodref 20 35), (0, .nameAndType 36 37), (0, u "poll"), (0, u "()I"), (0, .methodref 20 39), (0, .nameAndType 40 41), (0, u "isEmpty"), (0, u "()Z"), (3, u "law"), (0, u "(JJJJJI)Z")] 4

def k1m0 : Method := { name := "<init>", desc := "()V", sig := { parameters := [], returnType := none }, accessFlags := 1, code := none }
def k1c1 : Code := { maxStack := 4, maxLocals := 6, code := method_2_code, exceptionTable := #[], attributes := #[] }
def k1m1 : Method := { name := "key", desc := "(JII)J", sig := { parameters := [.long, .int, .int], returnType := some .long }, accessFlags := 10, code := some k1c1 }
def k1c2 : Code := { maxStack := 3, maxLocals := 2, code := method_3_code, exceptionTable := #[], attributes := #[] }
def k1m2 : Method := { name := "stageOf", desc := "(J)I", sig := { parameters := [.long], returnType := some .int }, accessFlags := 10, code := some k1c2 }
def k1c3 : Code := { maxStack := 4, maxLocals := 2, code := method_4_code, exceptionTable := #[], attributes := #[] }
def k1m3 : Method := { name := "serviceOf", desc := "(J)I", sig := { parameters := [.long], returnType := some .int }, accessFlags := 10, code := some k1c3 }
def k1c4 : Code := { maxStack := 4, maxLocals := 5, code := method_5_code, exceptionTable := #[], attributes := #[] }
def k1m4 : Method := { name := "cs", desc := "([JII)V", sig := { parameters := [(.array .long), .int, .int], returnType := none }, accessFlags := 10, code := some k1c4 }
def k1c5 : Code := { maxStack := 5, maxLocals := 28, code := code, exceptionTable := #[], attributes := #[] }
def k1m5 : Method := { name := "law", desc := "(JJJJJI)Z", sig := { parameters := [.long, .long, .long, .long, .long, .int], returnType := some .boolean }, accessFlags := 9, code := some k1c5 }
/-- com/example/chainwright/chainwright/core/StageQueuePollPinLaw -/
def k1 : Class := { plain "com/example/chainwright/chainwright/core/StageQueuePollPinLaw" (some 0) with
  accessFlags := 49
  interfaces := #[]
  cf := some (fileOf pool1 11 #[] #[{ accessFlags := 1, nameIndex := 5, descriptorIndex := 6, attributes := #[] }, { accessFlags := 10, nameIndex := 14, descriptorIndex := 15, attributes := #[] }, { accessFlags := 10, nameIndex := 25, descriptorIndex := 26, attributes := #[] }, { accessFlags := 10, nameIndex := 29, descriptorIndex := 26, attributes := #[] }, { accessFlags := 10, nameIndex := 18, descriptorIndex := 19, attributes := #[] }, { accessFlags := 9, nameIndex := 45, descriptorIndex := 46, attributes := #[] }] 49 2 #[] #[])
  fields := #[]
  methods := #[k1m0, k1m1, k1m2, k1m3, k1m4, k1m5]
  instanceTypes := #[]
  staticTypes := #[]
  resolved := Array.replicate 51 none
  statics := none }

def pool2 : Array CpInfo := pool [(1, .methodref 2 3), (0, .class_ 4), (0, .nameAndType 5 6), (0, u "java/lang/Object"), (0, u "<init>"), (0, u "()V"), (0, .fieldref 8 9), (0, .class_ 10), (0, .nameAndType 11 12), (0, u "com/example/chainwright/chainwright/core/StageQueue"), (0, u "heap"), (0, u "[J"), (0, .fieldref 8 14), (0, .nameAndType 15 16), (0, u "size"), (0, u "I"), (10, u "add"), (0, u "(II)V"), (1, u "isEmpty"), (0, u "()Z"), (1, u "()I"), (0, u "poll")] 3

def k2c0 : Code := { maxStack := 2, maxLocals := 1, code := prog_35_method_1_code, exceptionTable := #[], attributes := #[] }
def k2m0 : Method := { name := "<init>", desc := "()V", sig := { parameters := [], returnType := none }, accessFlags := 0, code := some k2c0 }
def k2c1 : Code := { maxStack := 5, maxLocals := 6, code := prog_35_method_2_code, exceptionTable := #[], attributes := #[] }
def k2m1 : Method := { name := "add", desc := "(II)V", sig := { parameters := [.int, .int], returnType := none }, accessFlags := 0, code := some k2c1 }
def k2c2 : Code := { maxStack := 1, maxLocals := 1, code := prog_35_method_3_code, exceptionTable := #[], attributes := #[] }
def k2m2 : Method := { name := "isEmpty", desc := "()Z", sig := { parameters := [], returnType := some .boolean }, accessFlags := 0, code := some k2c2 }
def k2c3 : Code := { maxStack := 4, maxLocals := 6, code := prog_35_method_5_code, exceptionTable := #[], attributes := #[] }
def k2m3 : Method := { name := "poll", desc := "()I", sig := { parameters := [], returnType := some .int }, accessFlags := 0, code := some k2c3 }
/-- com/example/chainwright/chainwright/core/StageQueue -/
def k2 : Class := { plain "com/example/chainwright/chainwright/core/StageQueue" (some 0) with
  accessFlags := 48
  interfaces := #[]
  cf := some (fileOf pool2 8 #[] #[{ accessFlags := 0, nameIndex := 5, descriptorIndex := 6, attributes := #[] }, { accessFlags := 0, nameIndex := 27, descriptorIndex := 28, attributes := #[] }, { accessFlags := 0, nameIndex := 30, descriptorIndex := 31, attributes := #[] }, { accessFlags := 0, nameIndex := 34, descriptorIndex := 33, attributes := #[] }] 48 2 #[] #[{ accessFlags := 2, nameIndex := 11, descriptorIndex := 12, attributes := #[] }, { accessFlags := 2, nameIndex := 15, descriptorIndex := 16, attributes := #[] }])
  fields := #[{ name := "heap", type := (.array .long), accessFlags := 2, slot := 0, constantValue := 0 }, { name := "size", type := .int, accessFlags := 2, slot := 1, constantValue := 0 }]
  methods := #[k2m0, k2m1, k2m2, k2m3]
  instanceTypes := #[(.array .long), .int]
  staticTypes := #[]
  resolved := Array.replicate 38 none
  statics := none }

def pool3 : Array CpInfo := pool [(1, u "java/lang/Cloneable"), (0, .class_ 1), (0, u "java/lang/Object"), (0, .class_ 3)] 3

/-- java/lang/Cloneable -/
def k3 : Class := { plain "java/lang/Cloneable" (some 0) with
  accessFlags := 1537
  interfaces := #[]
  cf := some (fileOf pool3 2 #[] #[] 1537 4 #[] #[])
  fields := #[]
  methods := #[]
  instanceTypes := #[]
  staticTypes := #[]
  resolved := Array.replicate 8 none
  statics := none }

def pool4 : Array CpInfo := pool [(1, u "java/io/Serializable"), (0, .class_ 1), (0, u "java/lang/Object"), (0, .class_ 3)] 3

/-- java/io/Serializable -/
def k4 : Class := { plain "java/io/Serializable" (some 0) with
  accessFlags := 1537
  interfaces := #[]
  cf := some (fileOf pool4 2 #[] #[] 1537 4 #[] #[])
  fields := #[]
  methods := #[]
  instanceTypes := #[]
  staticTypes := #[]
  resolved := Array.replicate 8 none
  statics := none }

/-- the primitive byte -/
def k5 : Class := { plain "byte" none with kind := .primitive 'B', accessFlags := 0x411 }
/-- [B -/
def k6 : Class := { plain "[B" (some 0) with kind := .array 5 .byte, interfaces := #[3, 4], accessFlags := 1041 }

/-- the primitive int -/
def k7 : Class := { plain "int" none with kind := .primitive 'I', accessFlags := 0x411 }
/-- [I -/
def k8 : Class := { plain "[I" (some 0) with kind := .array 7 .int, interfaces := #[3, 4], accessFlags := 1041 }

/-- the primitive long -/
def k9 : Class := { plain "long" none with kind := .primitive 'J', accessFlags := 0x411 }
/-- [J -/
def k10 : Class := { plain "[J" (some 0) with kind := .array 9 .long, interfaces := #[3, 4], accessFlags := 1041 }

def heap : Heap := #[]
def classes : Array Class := #[k0, k1, k2, k3, k4, k5, k6, k7, k8, k9, k10]
def interned : List (Array UInt16 × Addr) := []
def slotsUsed : Nat := 0
def theMethod : MethodId := ⟨1, 5⟩
def args0 : Array Value := #[.long 5, .long 3, .long 2, .long 1, .long 9, .int 7]
def aboutOver (below : List Frame) : State where
  vm := { classes := classes, interned := interned.toArray }
  heap := heap
  slotsUsed := slotsUsed
  threads := #[{ frames := .invoking theMethod args0 :: below }]
def below0 : List Frame := [.native { method := ⟨0, 0⟩, args := #[] }]
def about1 : State := aboutOver below0
def p0 : Program := .bare "" "" ""
def e0 : Env := launch0.env 0 0 0
theorem w_frames : about1.frames = Frame.invoking theMethod args0 :: below0 := rfl
set_option maxRecDepth 65536 in
theorem w_args : argsFit about1.vm theMethod args0 = true := by decide +kernel
set_option maxRecDepth 65536 in
theorem w_heap : heapFits about1 = true := by decide +kernel
set_option maxRecDepth 65536 in
theorem w_runnable : about1.curStatus? = some .runnable := by decide +kernel
set_option maxRecDepth 65536 in
theorem w_alone : about1.alone = true := by decide +kernel
set_option maxRecDepth 65536 in
theorem w_named : about1.methodNamed? x = some theMethod := by decide +kernel
set_option maxRecDepth 65536 in
theorem w_hears : about1.hears theMethod below0 = true := by decide +kernel
set_option maxRecDepth 65536 in
theorem w_ripe : about1.ripe theMethod args0 below0 = true := by decide +kernel
theorem w_running : about1.status = .running := rfl
set_option maxRecDepth 65536 in
theorem w_room : about1.hasRoom e0.platform room_1 = true :=
  launch0.hasRoom_least _ room_1 (by decide +kernel) (by decide +kernel) (by decide +kernel) (by decide +kernel) (by decide +kernel) (by decide +kernel)
theorem allAtoms_all (ts : List Jvm.Cond) (a : Array Jvm.Value) (st : Jvm.State) : (allAtoms ts).before a st = ts.all (fun c => c.before a st) := by
  induction ts with
  | nil => rfl
  | cons c t ih =>
    show (Jvm.Cond.and c (allAtoms t)).before a st = _
    rw [Jvm.Cond.before_and, ih, List.all_cons]
def words1 : List Jvm.Cond := Jvm.Cond.code x code maxLocals ret :: tables_1
/-- a 'code' word, met by the world's own term for the bytes: nothing is compared byte by byte -/
theorem code_word {y : MethodName} {bytes : ByteArray} {mx : Nat} {rt : Option FieldType} {a : Array Value} {s : State} {m : MethodId} {meth : Method} {c : Code} (h1 : s.methodNamed? y = some m) (h2 : s.vm.method? m = some meth) (h3 : meth.code = some c) (h4 : c.code = bytes)
    (h5 : (c.maxLocals == mx && c.exceptionTable.isEmpty && decide (c.maxStack ≤ mostOperands) && decide (meth.sig.returnType = rt) && !meth.locks && decide (parseMethodDescriptor y.desc = some meth.sig)) = true) : (Jvm.Cond.code y bytes mx rt).before a s = true := by
  simp only [Bool.and_eq_true, beq_iff_eq, Bool.not_eq_true', decide_eq_true_eq] at h5
  obtain ⟨⟨⟨⟨⟨g1, g2⟩, g3⟩, g4⟩, g5⟩, g6⟩ := h5
  simp [Cond.before, Cond.holds, Cond.value, h1, h2, h3, h4, g1, g2, g3, g4, g5, g6]
def isCode : Jvm.Cond → Bool
  | .code _ _ _ _ => true
  | _ => false
theorem all_split {L : List Jvm.Cond} {P : Jvm.Cond → Bool} (h1 : L.all (fun c => isCode c || P c) = true) (h2 : ∀ c ∈ L.filter isCode, P c = true) : L.all P = true := by
  refine List.all_eq_true.mpr fun c hc => ?_
  have h := List.all_eq_true.mp h1 c hc
  rcases Bool.eq_false_or_eq_true (isCode c) with hi | hi
  · exact h2 c (List.mem_filter.mpr ⟨hc, hi⟩)
  · simpa [hi] using h
set_option maxRecDepth 65536 in
theorem w_c0 : (Jvm.Cond.code x code maxLocals ret).before args0 about1 = true := code_word (m := ⟨1, 5⟩) (meth := k1m5) (c := k1c5) (by decide +kernel) rfl rfl rfl (by decide +kernel)
set_option maxRecDepth 65536 in
theorem w_c1 : (Jvm.Cond.code ({ cls := "com/example/chainwright/chainwright/core/StageQueuePollPinLaw", name := "key", desc := "(JII)J" } : Jvm.MethodName) method_2_code (6 : Nat) (Option.some Jvm.ClassFile.FieldType.long)).before args0 about1 = true := code_word (m := ⟨1, 1⟩) (meth := k1m1) (c := k1c1) (by decide +kernel) rfl rfl rfl (by decide +kernel)
set_option maxRecDepth 65536 in
theorem w_c2 : (Jvm.Cond.code ({ cls := "com/example/chainwright/chainwright/core/StageQueuePollPinLaw", name := "cs", desc := "([JII)V" } : Jvm.MethodName) method_5_code (5 : Nat) (Option.none : Option Jvm.ClassFile.FieldType)).before args0 about1 = true := code_word (m := ⟨1, 4⟩) (meth := k1m4) (c := k1c4) (by decide +kernel) rfl rfl rfl (by decide +kernel)
set_option maxRecDepth 65536 in
theorem w_c3 : (Jvm.Cond.code ({ cls := "com/example/chainwright/chainwright/core/StageQueue", name := "<init>", desc := "()V" } : Jvm.MethodName) prog_35_method_1_code (1 : Nat) (Option.none : Option Jvm.ClassFile.FieldType)).before args0 about1 = true := code_word (m := ⟨2, 0⟩) (meth := k2m0) (c := k2c0) (by decide +kernel) rfl rfl rfl (by decide +kernel)
set_option maxRecDepth 65536 in
theorem w_c4 : (Jvm.Cond.code ({ cls := "java/lang/Object", name := "<init>", desc := "()V" } : Jvm.MethodName) object_method_1_code (1 : Nat) (Option.none : Option Jvm.ClassFile.FieldType)).before args0 about1 = true := code_word (m := ⟨0, 0⟩) (meth := k0m0) (c := k0c0) (by decide +kernel) rfl rfl rfl (by decide +kernel)
set_option maxRecDepth 65536 in
theorem w_c5 : (Jvm.Cond.code ({ cls := "com/example/chainwright/chainwright/core/StageQueuePollPinLaw", name := "stageOf", desc := "(J)I" } : Jvm.MethodName) method_3_code (2 : Nat) (Option.some Jvm.ClassFile.FieldType.int)).before args0 about1 = true := code_word (m := ⟨1, 2⟩) (meth := k1m2) (c := k1c2) (by decide +kernel) rfl rfl rfl (by decide +kernel)
set_option maxRecDepth 65536 in
theorem w_c6 : (Jvm.Cond.code ({ cls := "com/example/chainwright/chainwright/core/StageQueuePollPinLaw", name := "serviceOf", desc := "(J)I" } : Jvm.MethodName) method_4_code (2 : Nat) (Option.some Jvm.ClassFile.FieldType.int)).before args0 about1 = true := code_word (m := ⟨1, 3⟩) (meth := k1m3) (c := k1c3) (by decide +kernel) rfl rfl rfl (by decide +kernel)
set_option maxRecDepth 65536 in
theorem w_c7 : (Jvm.Cond.code ({ cls := "com/example/chainwright/chainwright/core/StageQueue", name := "add", desc := "(II)V" } : Jvm.MethodName) prog_35_method_2_code (6 : Nat) (Option.none : Option Jvm.ClassFile.FieldType)).before args0 about1 = true := code_word (m := ⟨2, 1⟩) (meth := k2m1) (c := k2c1) (by decide +kernel) rfl rfl rfl (by decide +kernel)
set_option maxRecDepth 65536 in
theorem w_c8 : (Jvm.Cond.code ({ cls := "com/example/chainwright/chainwright/core/StageQueue", name := "poll", desc := "()I" } : Jvm.MethodName) prog_35_method_5_code (6 : Nat) (Option.some Jvm.ClassFile.FieldType.int)).before args0 about1 = true := code_word (m := ⟨2, 3⟩) (meth := k2m3) (c := k2c3) (by decide +kernel) rfl rfl rfl (by decide +kernel)
set_option maxRecDepth 65536 in
theorem w_c9 : (Jvm.Cond.code ({ cls := "com/example/chainwright/chainwright/core/StageQueue", name := "isEmpty", desc := "()Z" } : Jvm.MethodName) prog_35_method_3_code (1 : Nat) (Option.some Jvm.ClassFile.FieldType.boolean)).before args0 about1 = true := code_word (m := ⟨2, 2⟩) (meth := k2m2) (c := k2c2) (by decide +kernel) rfl rfl rfl (by decide +kernel)
def codes1 : List Jvm.Cond := [Jvm.Cond.code x code maxLocals ret, Jvm.Cond.code ({ cls := "com/example/chainwright/chainwright/core/StageQueuePollPinLaw", name := "key", desc := "(JII)J" } : Jvm.MethodName) method_2_code (6 : Nat) (Option.some Jvm.ClassFile.FieldType.long), Jvm.Cond.code ({ cls := "com/example/chainwright/chainwright/core/StageQueuePollPinLaw", name := "cs", desc := "([JII)V" } : Jvm.MethodName) method_5_code (5 : Nat) (Option.none : Option Jvm.ClassFile.FieldType), Jvm.Cond.code ({ cls := "com/example/chainwright/chainwright/core/StageQueue", name := "<init>", desc := "()V" } : Jvm.MethodName) prog_35_method_1_code (1 : Nat) (Option.none : Option Jvm.ClassFile.FieldType), Jvm.Cond.code ({ cls := "java/lang/Object", name := "<init>", desc := "()V" } : Jvm.MethodName) object_method_1_code (1 : Nat) (Option.none : Option Jvm.ClassFile.FieldType), Jvm.Cond.code ({ cls := "com/example/chainwright/chainwright/core/StageQueuePollPinLaw", name := "stageOf", desc := "(J)I" } : Jvm.MethodName) method_3_code (2 : Nat) (Option.some Jvm.ClassFile.FieldType.int), Jvm.Cond.code ({ cls := "com/example/chainwright/chainwright/core/StageQueuePollPinLaw", name := "serviceOf", desc := "(J)I" } : Jvm.MethodName) method_4_code (2 : Nat) (Option.some Jvm.ClassFile.FieldType.int), Jvm.Cond.code ({ cls := "com/example/chainwright/chainwright/core/StageQueue", name := "add", desc := "(II)V" } : Jvm.MethodName) prog_35_method_2_code (6 : Nat) (Option.none : Option Jvm.ClassFile.FieldType), Jvm.Cond.code ({ cls := "com/example/chainwright/chainwright/core/StageQueue", name := "poll", desc := "()I" } : Jvm.MethodName) prog_35_method_5_code (6 : Nat) (Option.some Jvm.ClassFile.FieldType.int), Jvm.Cond.code ({ cls := "com/example/chainwright/chainwright/core/StageQueue", name := "isEmpty", desc := "()Z" } : Jvm.MethodName) prog_35_method_3_code (1 : Nat) (Option.some Jvm.ClassFile.FieldType.boolean)]
set_option maxRecDepth 65536 in
theorem codes_eq : words1.filter isCode = codes1 := rfl
theorem w_codes : ∀ c ∈ words1.filter isCode, c.before args0 about1 = true := by
  rw [codes_eq]
  intro c hc
  simp only [codes1, List.mem_cons, List.not_mem_nil, or_false] at hc
  rcases hc with rfl | rfl | rfl | rfl | rfl | rfl | rfl | rfl | rfl | rfl
  · exact w_c0
  · exact w_c1
  · exact w_c2
  · exact w_c3
  · exact w_c4
  · exact w_c5
  · exact w_c6
  · exact w_c7
  · exact w_c8
  · exact w_c9
set_option maxRecDepth 65536 in
theorem w_t1 : (words1.take 24).all (fun c => isCode c || c.before args0 about1) = true := by decide +kernel
set_option maxRecDepth 65536 in
theorem w_t2 : (words1.drop 24).all (fun c => isCode c || c.before args0 about1) = true := by decide +kernel
theorem w_tables : (allAtoms (Jvm.Cond.code x code maxLocals ret :: tables_1)).before args0 about1 = true := by
  rw [allAtoms_all]
  show words1.all (fun c => c.before args0 about1) = true
  refine all_split ?_ w_codes
  rw [← List.take_append_drop 24 words1, List.all_append, w_t1, w_t2]
  rfl
set_option maxRecDepth 65536 in
theorem w_case : (Jvm.Cond.and given_1 narrow_1).before args0 about1 = true := by decide +kernel
theorem w_applies : (headSpec (Jvm.Cond.code x code maxLocals ret :: tables_1) room_1).applies x e0.platform about1 = true :=
  (Spec.applies_iff w_frames).mpr ⟨w_running, w_runnable, w_alone, w_named, w_hears, w_ripe, w_room, w_tables⟩
theorem atStart : AtStart classFile x code maxLocals ret World_1 tables_1 room_1 Calls_1 rest_1 Pre_1 launch0 p0 e0 about1 theMethod args0 below0 :=
  ⟨lists_1, trivial, launch0.admits_env _ _ _, launch0.least_env, fairChoices_fair.cas, fairChoices_fair.clock, w_frames, w_args, w_heap, w_applies, trivial, trivial, w_case⟩
end start1
theorem witness_1 : WitnessClaimed_1 := ⟨start1.p0, start1.e0, start1.about1, start1.theMethod, start1.args0, start1.below0, start1.atStart⟩
end Jvm.Pilot.@@N@@
