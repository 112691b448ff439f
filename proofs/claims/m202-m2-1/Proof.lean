import JvmDerived
import JvmDerived.Pilot.@@N@@Statement
import JvmDerived.Pilot.@@N@@Code
set_option linter.unusedVariables false
set_option linter.unusedSimpArgs false
@@BLOCK:NumsL.lean.txt@@
@@BLOCK:Masks.lean.txt@@
@@BLOCK:Nums.lean.txt@@
namespace Jvm.Pilot.@@N@@
open Jvm Jvm.ClassFile Sem Op Lib Jvm.Free Jvm.Stand Jvm.LawKit Jvm.RoadKit Bundle Jvm.Pilot.@@N@@.Jvm.D
section Own
variable {p : Program} {l : Launch} {e : Env} {R : Room} {s : State} {m : MethodId} {args : Array Value} {below : List Frame} {meth : Method} {c : Code} {T T' : State} {locs : List Loc} {cells slots : Nat} {Z : State} {h h' : Heap} {n0 : Nat} {a0 : Array Value} {CC SS : Nat} {Q : Option Value → Heap → List Loc → Prop} {g g' : JFrame} {pc : Nat} {Ls : Array Slot} {rest st : List Value}
/-- from here the run comes to its end, and Q holds there -/
def own_Run (p : Program) (e : Env) (below : List Frame) (s : State) (CC SS : Nat) (Q : Option Value → Heap → List Loc → Prop) (T : State) (g : JFrame) : Prop :=
  ∃ s₂ o, Steps p.tables e below (T.setTop g) s₂ ∧ s₂.status = .running ∧ Ended s₂ below o ∧ ∃ v L, o = .returned v ∧ Q v s₂.heap L ∧ FrameEnd s o s₂ L CC SS
theorem own_run (sp : ∀ t, Steps p.tables e below (T'.setTop g') t → Steps p.tables e below (T.setTop g) t) (r : own_Run p e below s CC SS Q T' g') : own_Run p e below s CC SS Q T g := by
  obtain ⟨s₂, o, h1, r⟩ := r; exact ⟨s₂, o, sp _ h1, r⟩
theorem own_enter {ml : Nat} (q : entryFrame m args ml = g) (r : own_Run p e below s CC SS Q T g) : ∃ s₂ o, Steps p.tables e below (T.setTop (entryFrame m args ml)) s₂ ∧ s₂.status = .running ∧ Ended s₂ below o ∧ ∃ v L, o = .returned v ∧ Q v s₂.heap L ∧ FrameEnd s o s₂ L CC SS := by rw [q]; exact r
theorem own_retN {t : FieldType} {z : Int32} (X : Stand p l e R s m args below meth c T locs cells slots) (hx : p.tables.exec = Jvm.exec) (hlk : meth.locks = false) (hret : meth.sig.returnType = some t) (ht : t = .boolean ∨ t = .byte ∨ t = .char ∨ t = .short) (hd : decode c.code pc = .ok (.ireturn, 1)) (hc : cells ≤ CC) (hs : slots ≤ SS) (q : Q (some (.int (nar t z))) T.heap locs) : own_Run p e below s CC SS Q T (mkF m pc Ls (.int z :: rest)) := by
  obtain ⟨fs, hr, hrun, hended, hW, hsame⟩ := X.leave (v := some (.int (nar t z))) (fun h => by rw [hret] at h; cases h) hlk
  exact ⟨_, _, retN X hx hret ht hd hr, hrun, hended, _, _, rfl, q, ⟨_, rfl⟩, hW, hsame.mono hc hs⟩
theorem own_retI {z : Int32} (X : Stand p l e R s m args below meth c T locs cells slots) (hx : p.tables.exec = Jvm.exec) (hlk : meth.locks = false) (hret : meth.sig.returnType = some .int) (hd : decode c.code pc = .ok (.ireturn, 1)) (hc : cells ≤ CC) (hs : slots ≤ SS) (q : Q (some (.int z)) T.heap locs) : own_Run p e below s CC SS Q T (mkF m pc Ls (.int z :: rest)) := by
  obtain ⟨fs, hr, hrun, hended, hW, hsame⟩ := X.leave (v := some (.int z)) (fun h => by rw [hret] at h; cases h) hlk
  refine ⟨_, _, ?_, hrun, hended, _, _, rfl, q, ⟨_, rfl⟩, hW, hsame.mono hc hs⟩
  have hm' : T.vm.method? m = some meth := X.method'
  have hn : narrow .int (.int z) = .int z := rfl
  show Steps p.tables e below (T.setTop { method := m, pc := pc, locals := Ls, stack := _ :: rest, locked := none }) _
  jvm_step X.here [X.here.top, hx, hd, hm', hret, hn]
  first | (intro acts; rw [hr _ acts rfl rfl rfl]) | rw [hr _ _ rfl rfl rfl]
  exact Steps.refl _
theorem own_retL {z : Int64} (X : Stand p l e R s m args below meth c T locs cells slots) (hx : p.tables.exec = Jvm.exec) (hlk : meth.locks = false) (hret : meth.sig.returnType = some .long) (hd : decode c.code pc = .ok (.lreturn, 1)) (hc : cells ≤ CC) (hs : slots ≤ SS) (q : Q (some (.long z)) T.heap locs) : own_Run p e below s CC SS Q T (mkF m pc Ls [.long z]) := by
  obtain ⟨fs, hr, hrun, hended, hW, hsame⟩ := X.leave (v := some (.long z)) (fun h => by rw [hret] at h; cases h) hlk
  exact ⟨_, _, X.lreturnOut hx hret hd hr, hrun, hended, _, _, rfl, q, ⟨_, rfl⟩, hW, hsame.mono hc hs⟩
theorem own_retV (X : Stand p l e R s m args below meth c T locs cells slots) (hx : p.tables.exec = Jvm.exec) (hlk : meth.locks = false) (hret : meth.sig.returnType = none) (hd : decode c.code pc = .ok (.return_, 1)) (hc : cells ≤ CC) (hs : slots ≤ SS) (q : Q none T.heap locs) : own_Run p e below s CC SS Q T (mkF m pc Ls []) := by
  obtain ⟨fs, hr, hrun, hended, hW, hsame⟩ := X.leave (v := none) (fun _ => rfl) hlk
  exact ⟨_, _, X.returnOut hx hret hd hr, hrun, hended, _, _, rfl, q, ⟨_, rfl⟩, hW, hsame.mono hc hs⟩
theorem own_retR {v : Value} {t : FieldType} (X : Stand p l e R s m args below meth c T locs cells slots) (hx : p.tables.exec = Jvm.exec) (hlk : meth.locks = false) (hret : meth.sig.returnType = some t) (ht : t.isReference = true) (hv : v.isRef = true) (hd : decode c.code pc = .ok (.areturn, 1)) (hc : cells ≤ CC) (hs : slots ≤ SS) (q : Q (some v) T.heap locs) : own_Run p e below s CC SS Q T (mkF m pc Ls (v :: rest)) := by
  obtain ⟨fs, hr, hrun, hended, hW, hsame⟩ := X.leave (v := some v) (fun h => by rw [hret] at h; cases h) hlk
  refine ⟨_, _, ?_, hrun, hended, _, _, rfl, q, ⟨_, rfl⟩, hW, hsame.mono hc hs⟩
  have hm' : T.vm.method? m = some meth := X.method'
  show Steps p.tables e below (T.setTop { method := m, pc := pc, locals := Ls, stack := _ :: rest, locked := none }) _
  jvm_step X.here [X.here.top, hx, hd, hm', hret, ht, hv]
  first | (intro acts; rw [hr _ acts rfl rfl rfl]) | rw [hr _ _ rfl rfl rfl]
  exact Steps.refl _
theorem own_clt {x y : Int64} (q : x < y) : ifCond.holds .lt (XT.cmpL x y) = true ∧ ifCond.holds .ge (XT.cmpL x y) = false := by
  have q' : XT.cmpL x y < 0 := (lw_lt x y).mpr q
  exact ⟨(if0 _ _).trans (tlt q').1, (if0 _ _).trans (tlt q').2.1⟩
theorem own_cnlt {x y : Int64} (q : ¬ x < y) : ifCond.holds .lt (XT.cmpL x y) = false ∧ ifCond.holds .ge (XT.cmpL x y) = true := by
  have q' : ¬ XT.cmpL x y < 0 := fun z => q ((lw_lt x y).mp z)
  exact ⟨(if0 _ _).trans (flt q').1, (if0 _ _).trans (flt q').2.1⟩
theorem own_cgt {x y : Int64} (q : y < x) : ifCond.holds .gt (XT.cmpL x y) = true ∧ ifCond.holds .le (XT.cmpL x y) = false := by
  have q' : 0 < XT.cmpL x y := (lw_gt x y).mpr q
  exact ⟨(if0 _ _).trans (tlt q').2.2.1, (if0 _ _).trans (tlt q').2.2.2⟩
theorem own_cngt {x y : Int64} (q : ¬ y < x) : ifCond.holds .gt (XT.cmpL x y) = false ∧ ifCond.holds .le (XT.cmpL x y) = true := by
  have q' : ¬ 0 < XT.cmpL x y := fun z => q ((lw_gt x y).mp z)
  exact ⟨(if0 _ _).trans (flt q').2.2.1, (if0 _ _).trans (flt q').2.2.2⟩
theorem own_ceq {x y : Int64} (q : x = y) : ifCond.holds .eq (XT.cmpL x y) = true ∧ ifCond.holds .ne (XT.cmpL x y) = false := by
  have q' : XT.cmpL x y = 0 := (lw_eq x y).mpr q
  exact ⟨(if0 _ _).trans (teq q').1, (if0 _ _).trans (teq q').2⟩
theorem own_cneq {x y : Int64} (q : ¬ x = y) : ifCond.holds .eq (XT.cmpL x y) = false ∧ ifCond.holds .ne (XT.cmpL x y) = true := by
  have q' : ¬ XT.cmpL x y = 0 := fun z => q ((lw_eq x y).mp z)
  exact ⟨(if0 _ _).trans (feq q').1, (if0 _ _).trans (feq q').2⟩
theorem own_rem (x y : Int32) : x - (x / y) * y = x % y := by
  have a := (x % y).toInt_lt; have b := (x % y).le_toInt
  rw [Int32.toInt_mod] at a b
  apply Int32.toInt_inj.mp
  rw [Int32.toInt_mod, Int32.toInt_sub, Int32.toInt_mul, Int32.toInt_div, Int.bmod_mul_bmod, Int.sub_bmod_bmod, Int.mul_comm, ← Int.tmod_def]
  exact Jvm.Kit.bmod32 b a
theorem own_irem {tb : Tables} [Ours tb] {e : Env} {below : List Frame} {T target : State} {m : MethodId} {c : Code} {g : JFrame} (h : At T m c below) (hx : tb.exec = Jvm.exec) (hg : g.method = m) {x y : Int32} {rest : List Value} (hd : decode c.code g.pc = .ok (.irem, 1)) (hs : g.stack = .int y :: .int x :: rest) (hy : y ≠ 0)
    (hr : Steps tb e below (T.setTop { g with pc := g.pc + 1, stack := .int (x % y) :: rest }) target) : Steps tb e below (T.setTop g) target := XS.irem h hx hg hd hs hy (by rw [own_rem]; exact hr)
theorem own_ldcI {own : String} {index : Nat} {x : Int32} (X : Stand p l e R s m args below meth c T locs cells slots) (hx : p.tables.exec = Jvm.exec) (hZ : Z.Warmed39 s.vm) (hown : s.vm.findClass own = some m.cls) (w : (Cond.constant own index x).before a0 Z = true) (hd : decode c.code pc = .ok (.ldc index, 2)) (k : own_Run p e below s CC SS Q T (mkF m (pc + 2) Ls (.int x :: rest))) : own_Run p e below s CC SS Q T (mkF m pc Ls rest) :=
  own_run (X.ldcInt hx hown (mvT hZ w) (g := mkF m pc Ls rest) rfl hd) k
theorem own_ldcwI {own : String} {index : Nat} {x : Int32} (X : Stand p l e R s m args below meth c T locs cells slots) (hx : p.tables.exec = Jvm.exec) (hZ : Z.Warmed39 s.vm) (hown : s.vm.findClass own = some m.cls) (w : (Cond.constant own index x).before a0 Z = true) (hd : decode c.code pc = .ok (.ldc_w index, 3)) (k : own_Run p e below s CC SS Q T (mkF m (pc + 3) Ls (.int x :: rest))) : own_Run p e below s CC SS Q T (mkF m pc Ls rest) :=
  own_run (X.ldcwInt hx hown (mvT hZ w) (g := mkF m pc Ls rest) rfl hd) k
theorem own_ldcL {own : String} {index : Nat} {x : Int64} (X : Stand p l e R s m args below meth c T locs cells slots) (hx : p.tables.exec = Jvm.exec) (hZ : Z.Warmed39 s.vm) (hown : s.vm.findClass own = some m.cls) (w : (Cond.constantLong own index x).before a0 Z = true) (hd : decode c.code pc = .ok (.ldc2_w index, 3)) (k : own_Run p e below s CC SS Q T (mkF m (pc + 3) Ls (.long x :: rest))) : own_Run p e below s CC SS Q T (mkF m pc Ls rest) :=
  own_run (X.ldc2Long hx hown (mvT hZ w) (g := mkF m pc Ls rest) rfl hd) k
/-- an array of ints or bytes: its length and what it holds -/
def own_A (Z : State) (h : Heap) (a : Addr) (ty : FieldType) (n : Int32) (xs : List Int32) : Prop :=
  xs.length = n.toNatClampNeg ∧ ∃ k, Arv Z h a k ty n (xs.map Value.int) (.int (0 : Int32))
variable {a b : Addr} {ty : FieldType} {n j x : Int32} {xs ys : List Int32} {sl : Nat} {v : Value} {ws : List Addr}
theorem own_A.lt (A : own_A Z h a ty n xs) : a < h.size := by obtain ⟨-, k, V⟩ := A; exact V.lt
theorem own_A.ext (A : own_A Z h a ty n xs) (E : Ext h h') : own_A Z h' a ty n xs := ⟨A.1, A.2.imp fun _ V => V.ext E⟩
theorem own_A.other (A : own_A Z h b ty n xs) (W : Wr h h' a sl v) (q : b ≠ a) : own_A Z h' b ty n xs := ⟨A.1, A.2.imp fun _ V => V.other W q⟩
theorem own_A.keep (A : own_A Z h a ty n xs) (K : Keep h h' ws) (q : a ∉ ws) : own_A Z h' a ty n xs := ⟨A.1, A.2.imp fun _ V => V.keep K q⟩
theorem own_A.nn (A : own_A Z h a ty n xs) : ¬ n < 0 := by obtain ⟨-, k, cl, -, -, -, q, -⟩ := A; exact q
theorem own_A.to (A : own_A Z h a ty n xs) (q : xs = ys) : own_A Z h a ty n ys := q ▸ A
theorem own_lt_clamp {j n : Int32} (hj : ¬ j < 0 ∧ j < n) : j.toNatClampNeg < n.toNatClampNeg := by
  obtain ⟨q1, q2⟩ := hj
  rw [Int32.lt_iff_toInt_lt] at q1 q2
  have e0 : (0 : Int32).toInt = 0 := rfl
  simp only [Int32.toNatClampNeg] at *; omega
theorem own_newA {aty : ArrayType} {cap : Nat} (X : Stand p l e R s m args below meth c T locs cells slots) (hx : p.tables.exec = Jvm.exec) (hZ : Z.Warmed39 s.vm) (w : (Cond.arrayClass (newarray.typeOf aty)).before a0 Z = true) (hty : newarray.typeOf aty = ty) (hdv : defaultValue ty = .int 0) (eT : T.heap = h) (hd : decode c.code pc = .ok (.newarray aty, 2)) (hn : ¬ n < 0) (hcap : n.toNatClampNeg ≤ cap) (hb : cap * 8 ≤ 536870912) (hc : cells + 1 ≤ R.cells) (hl : slots + cap ≤ R.slots)
    (k : ∀ T' h' b, b = h.size → Stand p l e R s m args below meth c T' locs (cells + 1) (slots + cap) → T'.heap = h' → Ext h h' → own_A Z h' b ty n (List.replicate n.toNatClampNeg 0) → own_Run p e below s CC SS Q T' (mkF m (pc + 2) Ls (.ref b :: rest))) :
    own_Run p e below s CC SS Q T (mkF m pc Ls (.int n :: rest)) := by
  obtain ⟨T', h', cA, X', e', E', A', sp⟩ := newP X hx hZ w eT (g := mkF m pc Ls (.int n :: rest)) rfl hd rfl hn hcap hb hc hl
  subst hty
  refine own_run sp (k T' h' _ rfl X' e' E' ⟨by simp, cA, ?_⟩)
  have V := Arv.new A' hn
  rw [hdv] at V
  have q := V.pad (pad_rep [] (.int 0) n.toNatClampNeg)
  simpa using q
theorem own_len (X : Stand p l e R s m args below meth c T locs cells slots) (hx : p.tables.exec = Jvm.exec) (hZ : Z.Warmed39 s.vm) (eT : T.heap = h) (A : own_A Z h a ty n xs) (hd : decode c.code pc = .ok (.arraylength, 1)) (k : own_Run p e below s CC SS Q T (mkF m (pc + 1) Ls (.int n :: rest))) : own_Run p e below s CC SS Q T (mkF m pc Ls (.ref a :: rest)) := by
  obtain ⟨hl, kk, cl, Ar, q1, Sz, Nn, H, G⟩ := A
  refine own_run (fun t kt => X.arraylength hx (by rw [eT]; exact Ar.1) (State.isArrayOf_alike hZ.alike Ar.2.1) (g := mkF m pc Ls (.ref a :: rest)) rfl rfl hd t (by rw [len_of Sz Nn]; exact kt)) k
theorem own_getD (xs : List Int32) (i : Nat) : (xs.map Value.int).getD i (.int 0) = .int (xs.getD i 0) := by
  simp only [List.getD_eq_getElem?_getD, List.getElem?_map]; cases xs[i]? <;> rfl
theorem own_ldI (X : Stand p l e R s m args below meth c T locs cells slots) (hx : p.tables.exec = Jvm.exec) (hZ : Z.Warmed39 s.vm) (eT : T.heap = h) (A : own_A Z h a .int n xs) (hj : ¬ j < 0 ∧ j < n) (hd : decode c.code pc = .ok (.iaload, 1)) (hv : xs.getD j.toNatClampNeg 0 = x) (k : own_Run p e below s CC SS Q T (mkF m (pc + 1) Ls (.int x :: rest))) : own_Run p e below s CC SS Q T (mkF m pc Ls (.int j :: .ref a :: rest)) := by
  obtain ⟨hl, kk, cl, Ar, q1, Sz, Nn, H, G⟩ := A
  have hin := inb_of Sz hj
  refine own_run (fun t kt => X.iaload hx (j := j) (v := .int x) (by rw [eT]; exact Ar.1) (State.isArrayOf_alike hZ.alike Ar.2.1) Ar.2.2 hin (H.at hin (by rw [own_getD, hv])) (g := mkF m pc Ls (.int j :: .ref a :: rest)) rfl rfl hd t kt) k
theorem own_ldB (X : Stand p l e R s m args below meth c T locs cells slots) (hx : p.tables.exec = Jvm.exec) (hZ : Z.Warmed39 s.vm) (eT : T.heap = h) (A : own_A Z h a .byte n xs) (hj : ¬ j < 0 ∧ j < n) (hd : decode c.code pc = .ok (.baload, 1)) (hv : xs.getD j.toNatClampNeg 0 = x) (k : own_Run p e below s CC SS Q T (mkF m (pc + 1) Ls (.int x :: rest))) : own_Run p e below s CC SS Q T (mkF m pc Ls (.int j :: .ref a :: rest)) := by
  obtain ⟨hl, kk, cl, Ar, q1, Sz, Nn, H, G⟩ := A
  have hin := inb_of Sz hj
  refine own_run (fun t kt => X.baloadBytes hx (j := j) (v := .int x) (by rw [eT]; exact Ar.1) (State.isArrayOf_alike hZ.alike Ar.2.1) Ar.2.2 hin (H.at hin (by rw [own_getD, hv])) (g := mkF m pc Ls (.int j :: .ref a :: rest)) rfl rfl hd t kt) k
theorem own_map_set (xs : List Int32) (i : Nat) (x : Int32) : (xs.map Value.int).set i (.int x) = (xs.set i x).map Value.int := by rw [List.map_set]
theorem own_stI (X : Stand p l e R s m args below meth c T locs cells slots) (hx : p.tables.exec = Jvm.exec) (hZ : Z.Warmed39 s.vm) (eT : T.heap = h) (A : own_A Z h a .int n xs) (hj : ¬ j < 0 ∧ j < n) (N : Fr n0 locs) (ga : n0 ≤ a) (hd : decode c.code pc = .ok (.iastore, 1)) (hys : xs.set j.toNatClampNeg x = ys)
    (k : ∀ T' h' locs', Stand p l e R s m args below meth c T' locs' cells slots → Fr n0 locs' → T'.heap = h' → Wr h h' a j.toNatClampNeg (.int x) → own_A Z h' a .int n ys → own_Run p e below s CC SS Q T' (mkF m (pc + 1) Ls rest)) : own_Run p e below s CC SS Q T (mkF m pc Ls (.int x :: .int j :: .ref a :: rest)) := by
  obtain ⟨hl, kk, cl, Ar, q1, Sz, Nn, H, G⟩ := A
  have hin := inb_of Sz hj
  obtain ⟨T', h', X', e', W, sp⟩ := stI X hx hZ eT Ar (j := j) (x := x) hin (g := mkF m pc Ls (.int x :: .int j :: .ref a :: rest)) rfl rfl hd
  have V := Arv.set Ar q1 Sz Nn H G (show fits .int (.int x) = true from rfl) W _ rfl (by rw [List.length_map, hl]; exact own_lt_clamp hj)
  refine own_run sp (k T' h' _ X' (Fr.snoc X' N ga) e' W ⟨by rw [← hys, List.length_set]; exact hl, kk, ?_⟩)
  rw [← hys, ← own_map_set]; exact V
theorem own_stB (X : Stand p l e R s m args below meth c T locs cells slots) (hx : p.tables.exec = Jvm.exec) (hZ : Z.Warmed39 s.vm) (eT : T.heap = h) (A : own_A Z h a .byte n xs) (hj : ¬ j < 0 ∧ j < n) (N : Fr n0 locs) (ga : n0 ≤ a) (hd : decode c.code pc = .ok (.bastore, 1)) (hys : xs.set j.toNatClampNeg (nar .byte x) = ys)
    (k : ∀ T' h' locs', Stand p l e R s m args below meth c T' locs' cells slots → Fr n0 locs' → T'.heap = h' → Wr h h' a j.toNatClampNeg (.int (nar .byte x)) → own_A Z h' a .byte n ys → own_Run p e below s CC SS Q T' (mkF m (pc + 1) Ls rest)) : own_Run p e below s CC SS Q T (mkF m pc Ls (.int x :: .int j :: .ref a :: rest)) := by
  obtain ⟨hl, kk, cl, Ar, q1, Sz, Nn, H, G⟩ := A
  have hin := inb_of Sz hj
  obtain ⟨T', h', X', e', W, sp⟩ := stB X hx hZ eT Ar (j := j) (x := x) hin (g := mkF m pc Ls (.int x :: .int j :: .ref a :: rest)) rfl rfl hd
  have V := Arv.set Ar q1 Sz Nn H G (fits_nar_byte x) W _ rfl (by rw [List.length_map, hl]; exact own_lt_clamp hj)
  refine own_run sp (k T' h' _ X' (Fr.snoc X' N ga) e' W ⟨by rw [← hys, List.length_set]; exact hl, kk, ?_⟩)
  rw [← hys, ← own_map_set]; exact V
/-- an array of which only the length is said -/
def own_L (Z : State) (h : Heap) (a : Addr) (n : Int32) : Prop := ∃ (ty : FieldType) (k : ClassId) (vs : List Value) (d : Value), Arv Z h a k ty n vs d
theorem own_L.lt (A : own_L Z h a n) : a < h.size := by obtain ⟨_, _, _, _, V⟩ := A; exact V.lt
theorem own_L.ext (A : own_L Z h a n) (E : Ext h h') : own_L Z h' a n := by obtain ⟨_, _, _, _, V⟩ := A; exact ⟨_, _, _, _, V.ext E⟩
theorem own_L.other (A : own_L Z h b n) (W : Wr h h' a sl v) (q : b ≠ a) : own_L Z h' b n := by obtain ⟨_, _, _, _, V⟩ := A; exact ⟨_, _, _, _, V.other W q⟩
theorem own_L.keep (A : own_L Z h a n) (K : Keep h h' ws) (q : a ∉ ws) : own_L Z h' a n := by obtain ⟨_, _, _, _, V⟩ := A; exact ⟨_, _, _, _, V.keep K q⟩
theorem own_A.toL (A : own_A Z h a ty n xs) : own_L Z h a n := by obtain ⟨-, k, V⟩ := A; exact ⟨_, _, _, _, V⟩
theorem own_newL {aty : ArrayType} {cap : Nat} (X : Stand p l e R s m args below meth c T locs cells slots) (hx : p.tables.exec = Jvm.exec) (hZ : Z.Warmed39 s.vm) (w : (Cond.arrayClass (newarray.typeOf aty)).before a0 Z = true) (eT : T.heap = h) (hd : decode c.code pc = .ok (.newarray aty, 2)) (hn : ¬ n < 0) (hcap : n.toNatClampNeg ≤ cap) (hb : cap * 8 ≤ 536870912) (hc : cells + 1 ≤ R.cells) (hl : slots + cap ≤ R.slots)
    (k : ∀ T' h' b, b = h.size → Stand p l e R s m args below meth c T' locs (cells + 1) (slots + cap) → T'.heap = h' → Ext h h' → own_L Z h' b n → own_Run p e below s CC SS Q T' (mkF m (pc + 2) Ls (.ref b :: rest))) :
    own_Run p e below s CC SS Q T (mkF m pc Ls (.int n :: rest)) := by
  obtain ⟨T', h', cA, X', e', E', A', sp⟩ := newP X hx hZ w eT (g := mkF m pc Ls (.int n :: rest)) rfl hd rfl hn hcap hb hc hl
  exact own_run sp (k T' h' _ rfl X' e' E' ⟨_, _, _, _, Arv.new A' hn⟩)
theorem own_lenL (X : Stand p l e R s m args below meth c T locs cells slots) (hx : p.tables.exec = Jvm.exec) (hZ : Z.Warmed39 s.vm) (eT : T.heap = h) (A : own_L Z h a n) (hd : decode c.code pc = .ok (.arraylength, 1)) (k : own_Run p e below s CC SS Q T (mkF m (pc + 1) Ls (.int n :: rest))) : own_Run p e below s CC SS Q T (mkF m pc Ls (.ref a :: rest)) := by
  obtain ⟨ty, kk, vs, d, cl, Ar, q1, Sz, Nn, H, G⟩ := A
  refine own_run (fun t kt => X.arraylength hx (by rw [eT]; exact Ar.1) (State.isArrayOf_alike hZ.alike Ar.2.1) (g := mkF m pc Ls (.ref a :: rest)) rfl rfl hd t (by rw [len_of Sz Nn]; exact kt)) k
/-- an array of references that holds nothing but null -/
def own_U (Z : State) (h : Heap) (a : Addr) (n : Int32) : Prop := ∃ (C : String) (k : ClassId), Arv Z h a k (.object C) n [] .null
theorem own_U.lt (A : own_U Z h a n) : a < h.size := by obtain ⟨_, _, V⟩ := A; exact V.lt
theorem own_U.ext (A : own_U Z h a n) (E : Ext h h') : own_U Z h' a n := by obtain ⟨_, _, V⟩ := A; exact ⟨_, _, V.ext E⟩
theorem own_U.toL (A : own_U Z h a n) : own_L Z h a n := by obtain ⟨_, _, V⟩ := A; exact ⟨_, _, _, _, V⟩
theorem own_newU {own K : String} {index cap : Nat} (X : Stand p l e R s m args below meth c T locs cells slots) (hx : p.tables.exec = Jvm.exec) (hZ : Z.Warmed39 s.vm) (hown : s.vm.findClass own = some m.cls) (w1 : (Cond.classLink own index K).before a0 Z = true) (w2 : (Cond.arrayOver (.object K)).before a0 Z = true) (eT : T.heap = h) (hd : decode c.code pc = .ok (.anewarray index, 3)) (hn : ¬ n < 0) (hcap : n.toNatClampNeg ≤ cap) (hb : cap * 8 ≤ 536870912) (hc : cells + 1 ≤ R.cells) (hl : slots + cap ≤ R.slots)
    (k : ∀ T' h' b, b = h.size → Stand p l e R s m args below meth c T' locs (cells + 1) (slots + cap) → T'.heap = h' → Ext h h' → own_U Z h' b n → own_Run p e below s CC SS Q T' (mkF m (pc + 3) Ls (.ref b :: rest))) :
    own_Run p e below s CC SS Q T (mkF m pc Ls (.int n :: rest)) := by
  obtain ⟨T', h', cA, X', e', E', A', -, sp⟩ := newR X hx hZ hown w1 w2 eT (g := mkF m pc Ls (.int n :: rest)) rfl hd rfl hn hcap hb hc hl
  exact own_run sp (k T' h' _ rfl X' e' E' ⟨_, _, Arv.new A' hn⟩)
theorem own_ldU (X : Stand p l e R s m args below meth c T locs cells slots) (hx : p.tables.exec = Jvm.exec) (hZ : Z.Warmed39 s.vm) (eT : T.heap = h) (A : own_U Z h a n) (hj : ¬ j < 0 ∧ j < n) (hd : decode c.code pc = .ok (.aaload, 1)) (k : own_Run p e below s CC SS Q T (mkF m (pc + 1) Ls (.null :: rest))) : own_Run p e below s CC SS Q T (mkF m pc Ls (.int j :: .ref a :: rest)) := by
  obtain ⟨C, kk, cl, Ar, q1, Sz, Nn, H, G⟩ := A
  have hin := inb_of Sz hj
  refine own_run (fun t kt => X.aaload hx (j := j) (v := .null) (by rw [eT]; exact Ar.1) (State.isArrayOf_alike hZ.alike Ar.2.1) rfl Ar.2.2 hin (H.at hin (by simp)) (g := mkF m pc Ls (.int j :: .ref a :: rest)) rfl rfl hd t kt) k
/-- new -/
theorem own_new {own K : String} {index sz : Nat} (X : Stand p l e R s m args below meth c T locs cells slots) (hx : p.tables.exec = Jvm.exec) (hZ : Z.Warmed39 s.vm) (hown : s.vm.findClass own = some m.cls) (w : (Cond.classLink own index K).before a0 Z = true) (wi : (Cond.instantiable K sz).before a0 Z = true) (wz : (Cond.initialized K).before a0 Z = true) (eT : T.heap = h) (hd : decode c.code pc = .ok (.new index, 3)) (hc : cells + 1 ≤ R.cells) (hl : slots + sz ≤ R.slots)
    (k : ∀ T' h' b, b = h.size → Stand p l e R s m args below meth c T' locs (cells + 1) (slots + sz) → T'.heap = h' → Ext h h' → Exa Z h' b K → (∀ {O nm d : String} {ty : FieldType}, Laid Z a0 K O nm d → parseFieldDescriptor d = some ty → Fld Z h' b O nm d (defaultValue ty)) → own_Run p e below s CC SS Q T' (mkF m (pc + 3) Ls (.ref b :: rest))) :
    own_Run p e below s CC SS Q T (mkF m pc Ls rest) := by
  obtain ⟨T', h', X', e', E', A', D', -, sp⟩ := newO X hx hZ hown w wi wz eT (g := mkF m pc Ls rest) rfl hd hc hl
  exact own_run sp (k T' h' _ rfl X' e' E' A' D')
theorem own_getF {own R0 O nm d host : String} {index : Nat} (X : Stand p l e R s m args below meth c T locs cells slots) (hx : p.tables.exec = Jvm.exec) (hZ : Z.Warmed39 s.vm) (hown : s.vm.findClass own = some m.cls) (w : (Cond.fieldLink own index R0 nm d).before a0 Z = true ∨ (Cond.fieldLinkNest own index R0 nm d host).before a0 Z = true) (via : Via Z R0 O nm d) (eT : T.heap = h) (F : Fld Z h a O nm d v) (hd : decode c.code pc = .ok (.getfield index, 3))
    (k : ∀ T', Stand p l e R s m args below meth c T' locs cells slots → T'.heap = h → own_Run p e below s CC SS Q T' (mkF m (pc + 3) Ls (v :: rest))) : own_Run p e below s CC SS Q T (mkF m pc Ls (.ref a :: rest)) := by
  obtain ⟨T', X', e', sp⟩ := getF X hx hZ hown w via eT F (g := mkF m pc Ls (.ref a :: rest)) rfl rfl hd
  exact own_run sp (k T' X' e')
theorem own_getS {own R0 O nm d : String} {index : Nat} (X : Stand p l e R s m args below meth c T locs cells slots) (hx : p.tables.exec = Jvm.exec) (hZ : Z.Warmed39 s.vm) (hown : s.vm.findClass own = some m.cls) (w : (Cond.fieldLink own index R0 nm d).before a0 Z = true) (via : Via Z R0 O nm d) (eT : T.heap = h) (F : Sta Z h O nm d v) (hd : decode c.code pc = .ok (.getstatic index, 3))
    (k : ∀ T', Stand p l e R s m args below meth c T' locs cells slots → T'.heap = h → own_Run p e below s CC SS Q T' (mkF m (pc + 3) Ls (v :: rest))) : own_Run p e below s CC SS Q T (mkF m pc Ls rest) := by
  obtain ⟨T', X', e', sp⟩ := getS (host := "") X hx hZ hown w via eT F (g := mkF m pc Ls rest) rfl hd
  exact own_run sp (k T' X' e')
theorem own_StaKeep {O nm d K : String} (F : Sta Z h O nm d v) (Kp : Keep h h' [a]) (E : Exa Z h a K) : Sta Z h' O nm d v := by
  obtain ⟨cf, i, k, f, st, cell, h1, h2, h3, h4, h5, h6, h7⟩ := F
  obtain ⟨cell', k', q1, -, -, q4, -⟩ := E
  have ne : st ≠ a := fun e => by subst e; cases h5.symm.trans q1; rw [h6] at q4; cases q4
  exact ⟨cf, i, k, f, st, cell, h1, h2, h3, h4, Kp.2.1 _ _ h5 (ninS ne nin0), h6, h7⟩
theorem own_StaKeepA {O nm d : String} (F : Sta Z h O nm d v) (Kp : Keep h h' [a]) (A : own_A Z h a ty n xs) : Sta Z h' O nm d v := by
  obtain ⟨cf, i, k, f, st, cell, h1, h2, h3, h4, h5, h6, h7⟩ := F
  obtain ⟨-, kk, cl, Ar, -⟩ := A
  have q4 := Ar.plain
  have ne : st ≠ a := fun e => by subst e; cases h5.symm.trans Ar.1; rw [h6] at q4; cases q4
  exact ⟨cf, i, k, f, st, cell, h1, h2, h3, h4, Kp.2.1 _ _ h5 (ninS ne nin0), h6, h7⟩
theorem own_putF {own R0 O nm d host K : String} {index kk : Nat} {old : Value} (X : Stand p l e R s m args below meth c T locs cells slots) (hx : p.tables.exec = Jvm.exec) (hZ : Z.Warmed39 s.vm) (hown : s.vm.findClass own = some m.cls) (w : (Cond.fieldLink own index R0 nm d).before a0 Z = true ∨ (Cond.fieldLinkNest own index R0 nm d host).before a0 Z = true) (via : Via Z R0 O nm d) (eT : T.heap = h) (F : Fld Z h a O nm d old) (E : Exa Z h a K) (L : (Cond.lays K O nm d).before a0 Z = true ∨ ((Cond.laysFinal K O nm d).before a0 Z = true ∧ own = O ∧ meth.name = "<init>")) (wi : (Cond.instantiable K kk).before a0 Z = true) (hty : parseFieldDescriptor d = some ty) (hn : narrow ty v = v) (hf : fits ty v = true) (N : Fr n0 locs) (ga : n0 ≤ a) (hd : decode c.code pc = .ok (.putfield index, 3))
    (k : ∀ T' h' locs', Stand p l e R s m args below meth c T' locs' cells slots → Fr n0 locs' → T'.heap = h' → Wr h h' a (Jvm.RoadKit.slotOf Z O nm d) v → Fld Z h' a O nm d v → own_Run p e below s CC SS Q T' (mkF m (pc + 3) Ls rest)) : own_Run p e below s CC SS Q T (mkF m pc Ls (v :: .ref a :: rest)) := by
  obtain ⟨T', h', X', e', W, sp⟩ := putF X hx hZ hown w via eT F E L wi hty hn hf (g := mkF m pc Ls (v :: .ref a :: rest)) rfl rfl hd
  exact own_run sp (k T' h' _ X' (Fr.snoc X' N ga) e' W (F.same W))
theorem own_initO {own : String} {index W : Nat} (X : Stand p l e R s m args below meth c T locs cells slots) (hx : p.tables.exec = Jvm.exec) (hZ : Z.Warmed39 s.vm) (hown : s.vm.findClass own = some m.cls) (w1 : (Cond.methodLink own index Lib.objectInit).before a0 Z = true) (w2 : (Cond.instanceMethod Lib.objectInit).before a0 Z = true) (w3 : (Cond.code Lib.objectInit ⟨#[0xb1]⟩ 1 none).before a0 Z = true) (eT : T.heap = h) (hsize : Ls.size = c.maxLocals) (hd : decode c.code pc = .ok (.invokespecial index, 3)) (hf : 1 ≤ R.frames) (hW : (rest.map fun v => v.category).sum ≤ W) (hl : W + 12 ≤ R.locals)
    (k : ∀ T', Stand p l e R s m args below meth c T' locs cells slots → T'.heap = h → own_Run p e below s CC SS Q T' (mkF m (pc + 3) Ls rest)) : own_Run p e below s CC SS Q T (mkF m pc Ls (.ref a :: rest)) := by
  obtain ⟨T', X', e', sp⟩ := initO X hx hZ hown w1 w2 w3 eT (g := mkF m pc Ls (.ref a :: rest)) rfl hsize rfl hd hf (W := W) (by show 2 * 0 + _ ≤ _; omega) hl
  exact own_run sp (k T' X' e')
variable {own : String} {index maxL W : Nat} {y z : MethodName} {bytes : ByteArray} {ret : Option FieldType} {rm : Room} {argsL : List Value} {Q' : Option Value → Heap → List Loc → Prop}
/-- a static method by its contract -/
theorem own_callS (X : Stand p l e R s m args below meth c T locs cells slots) (hx : p.tables.exec = Jvm.exec) (hZ : Z.Warmed39 s.vm) (hown : s.vm.findClass own = some m.cls) (w1 : (Cond.methodLink own index y).before a0 Z = true) (w2 : (Cond.static y).before a0 Z = true) (w3 : (Cond.initialized y.cls).before a0 Z = true) (w4 : (Cond.code y bytes maxL ret).before a0 Z = true) (hy : y.cls ≠ "java/lang/invoke/MethodHandle" ∧ y.cls ≠ "java/lang/invoke/VarHandle")
    (hM : MetFree l y (head1 [Cond.code y bytes maxL ret] rm) (fun a U => a = argsL.toArray ∧ Z.Warmed39 U.vm ∧ U.heap = h) (fun _ _ _ _ _ => True) (fun _ U o U' => ∃ v L, o = .returned v ∧ Q' v U'.heap L ∧ FrameEnd U o U' L rm.cells rm.slots)) (eT : T.heap = h) (hf : rm.frames + 1 ≤ R.frames) (hl : W + (maxL + 11) + rm.locals ≤ R.locals) (hcl : cells + rm.cells ≤ R.cells) (hsl : slots + rm.slots ≤ R.slots) (hsize : Ls.size = c.maxLocals)
    (hlen : ∀ sig, parseMethodDescriptor y.desc = some sig → argsL.length = sig.parameters.length) (hs : st = argsL.reverse ++ rest) (hW : (rest.map fun v => v.category).sum ≤ W) (hd : decode c.code pc = .ok (.invokestatic index, 3))
    (k : ∀ T' v L, Stand p l e R s m args below meth c T' (locs ++ L) (cells + rm.cells) (slots + rm.slots) → Q' v T'.heap L → own_Run p e below s CC SS Q T' (mkF m (pc + 3) Ls (v.toList ++ rest))) : own_Run p e below s CC SS Q T (mkF m pc Ls st) := by
  obtain ⟨v, _, ⟨T1, L1, k1, n1⟩, -, X1, ⟨Lc, hQ, l1, y1, z1⟩, sp⟩ := Jvm.LawKit.callS X hx hown (mvT hZ w1) (mvT hZ w2) (mvT hZ w3) (mvT hZ w4) hy (backOf (W := W) hM hZ w4 w3 hf hl) (g := mkF m pc Ls st) rfl hsize (argsL := argsL) (rest := rest) hlen hs (by show 2 * 0 + _ ≤ _; omega) hd (fun _ _ => ⟨rfl, eT, hcl, hsl⟩)
  dsimp only [Pt.U, Pt.locs, Pt.cells, Pt.slots] at X1 l1 y1 z1 sp hQ
  subst l1 y1 z1
  exact own_run sp (k T1 v Lc X1 hQ)
/-- a constructor by its contract -/
theorem own_callI (X : Stand p l e R s m args below meth c T locs cells slots) (hx : p.tables.exec = Jvm.exec) (hZ : Z.Warmed39 s.vm) (hown : s.vm.findClass own = some m.cls) (hy1 : y.name = "<init>") (w1 : (Cond.methodLink own index y).before a0 Z = true) (w2 : (Cond.instanceMethod y).before a0 Z = true) (w3 : (Cond.initialized y.cls).before a0 Z = true) (w4 : (Cond.code y bytes maxL none).before a0 Z = true) (hy : y.cls ≠ "java/lang/invoke/MethodHandle" ∧ y.cls ≠ "java/lang/invoke/VarHandle")
    (hM : MetFree l y (head1 [Cond.code y bytes maxL none] rm) (fun a U => a = (.ref b :: argsL).toArray ∧ Z.Warmed39 U.vm ∧ U.heap = h) (fun _ _ _ _ _ => True) (fun _ U o U' => ∃ v L, o = .returned v ∧ Q' v U'.heap L ∧ FrameEnd U o U' L rm.cells rm.slots)) (eT : T.heap = h) (hf : rm.frames + 1 ≤ R.frames) (hl : W + (maxL + 11) + rm.locals ≤ R.locals) (hcl : cells + rm.cells ≤ R.cells) (hsl : slots + rm.slots ≤ R.slots) (hsize : Ls.size = c.maxLocals)
    (hlen : ∀ sig, parseMethodDescriptor y.desc = some sig → argsL.length = sig.parameters.length) (hs : st = argsL.reverse ++ .ref b :: rest) (hW : (rest.map fun v => v.category).sum ≤ W) (hd : decode c.code pc = .ok (.invokespecial index, 3))
    (k : ∀ T' v L, Stand p l e R s m args below meth c T' (locs ++ L) (cells + rm.cells) (slots + rm.slots) → Q' v T'.heap L → own_Run p e below s CC SS Q T' (mkF m (pc + 3) Ls (v.toList ++ rest))) : own_Run p e below s CC SS Q T (mkF m pc Ls st) := by
  obtain ⟨v, _, ⟨T1, L1, k1, n1⟩, -, X1, ⟨Lc, hQ, l1, y1, z1⟩, sp⟩ := X.specialBack hx (y := y) hy1 hown (mvT hZ w1) (mvT hZ w2) (mvT hZ w4) hy (backOf (W := W) hM hZ w4 w3 hf hl) (g := mkF m pc Ls st) rfl hsize (Steps.refl _) (a := b) (argsL := argsL) (rest := rest) hlen hs (by show 2 * 0 + _ ≤ _; omega) hd (fun _ _ => ⟨rfl, eT, hcl, hsl⟩)
  dsimp only [Pt.U, Pt.locs, Pt.cells, Pt.slots] at X1 l1 y1 z1 sp hQ
  subst l1 y1 z1
  exact own_run (fun t kt => sp.trans kt) (k T1 v Lc X1 hQ)
/-- an instance method by its contract -/
theorem own_callV {K : String} (X : Stand p l e R s m args below meth c T locs cells slots) (hx : p.tables.exec = Jvm.exec) (hZ : Z.Warmed39 s.vm) (hown : s.vm.findClass own = some m.cls) (w1 : (Cond.methodLink own index y).before a0 Z = true) (w2 : (Cond.declares y).before a0 Z = true) (w5 : (Cond.selects K y y).before a0 Z = true) (w6 : (Cond.instanceMethod y).before a0 Z = true) (w3 : (Cond.initialized y.cls).before a0 Z = true) (w4 : (Cond.code y bytes maxL ret).before a0 Z = true) (hy : y.cls ≠ "java/lang/invoke/MethodHandle" ∧ y.cls ≠ "java/lang/invoke/VarHandle") (E : Exa Z h b K)
    (hM : MetFree l y (head1 [Cond.code y bytes maxL ret] rm) (fun a U => a = (.ref b :: argsL).toArray ∧ Z.Warmed39 U.vm ∧ U.heap = h) (fun _ _ _ _ _ => True) (fun _ U o U' => ∃ v L, o = .returned v ∧ Q' v U'.heap L ∧ FrameEnd U o U' L rm.cells rm.slots)) (eT : T.heap = h) (hf : rm.frames + 1 ≤ R.frames) (hl : W + (maxL + 11) + rm.locals ≤ R.locals) (hcl : cells + rm.cells ≤ R.cells) (hsl : slots + rm.slots ≤ R.slots) (hsize : Ls.size = c.maxLocals)
    (hlen : ∀ sig, parseMethodDescriptor y.desc = some sig → argsL.length = sig.parameters.length) (hs : st = argsL.reverse ++ .ref b :: rest) (hW : (rest.map fun v => v.category).sum ≤ W) (hd : decode c.code pc = .ok (.invokevirtual index, 3))
    (k : ∀ T' v L, Stand p l e R s m args below meth c T' (locs ++ L) (cells + rm.cells) (slots + rm.slots) → Q' v T'.heap L → own_Run p e below s CC SS Q T' (mkF m (pc + 3) Ls (v.toList ++ rest))) : own_Run p e below s CC SS Q T (mkF m pc Ls st) := by
  obtain ⟨cq, kq, qa, qb, qc⟩ := isOf hZ eT E
  obtain ⟨v, _, ⟨T1, L1, k1, n1⟩, -, X1, ⟨Lc, hQ, l1, y1, z1⟩, sp⟩ := X.virtualBack hx (y := y) (z := y) hown (mvT hZ w1) (mvT hZ w2) (notFace_of_selects (args := #[]) (mvT hZ w5)) (mvT hZ w5) (mvT hZ w6) hy (backOf (W := W) hM hZ w4 w3 hf hl) qa qc (g := mkF m pc Ls st) rfl hsize (Steps.refl _) (argsL := argsL) (rest := rest) hlen hs (by show 2 * 0 + _ ≤ _; omega) hd (fun _ _ => ⟨rfl, eT, hcl, hsl⟩)
  dsimp only [Pt.U, Pt.locs, Pt.cells, Pt.slots] at X1 l1 y1 z1 sp hQ
  subst l1 y1 z1
  exact own_run (fun t kt => sp.trans kt) (k T1 v Lc X1 hQ)
/-- a private instance method by its contract -/
theorem own_callP {kk : Nat} {K : String} (X : Stand p l e R s m args below meth c T locs cells slots) (hx : p.tables.exec = Jvm.exec) (hZ : Z.Warmed39 s.vm) (hown : s.vm.findClass own = some m.cls) (w1 : (Cond.methodLink own index y).before a0 Z = true) (w2 : (Cond.instanceMethod y).before a0 Z = true) (wi : (Cond.instantiable y.cls kk).before a0 Z = true) (wp : (Cond.privateMethod y).before a0 Z = true) (w3 : (Cond.initialized y.cls).before a0 Z = true) (w4 : (Cond.code y bytes maxL ret).before a0 Z = true) (hy : y.cls ≠ "java/lang/invoke/MethodHandle" ∧ y.cls ≠ "java/lang/invoke/VarHandle") (E : Exa Z h b K)
    (hM : MetFree l y (head1 [Cond.code y bytes maxL ret] rm) (fun a U => a = (.ref b :: argsL).toArray ∧ Z.Warmed39 U.vm ∧ U.heap = h) (fun _ _ _ _ _ => True) (fun _ U o U' => ∃ v L, o = .returned v ∧ Q' v U'.heap L ∧ FrameEnd U o U' L rm.cells rm.slots)) (eT : T.heap = h) (hf : rm.frames + 1 ≤ R.frames) (hl : W + (maxL + 11) + rm.locals ≤ R.locals) (hcl : cells + rm.cells ≤ R.cells) (hsl : slots + rm.slots ≤ R.slots) (hsize : Ls.size = c.maxLocals)
    (hlen : ∀ sig, parseMethodDescriptor y.desc = some sig → argsL.length = sig.parameters.length) (hs : st = argsL.reverse ++ .ref b :: rest) (hW : (rest.map fun v => v.category).sum ≤ W) (hd : decode c.code pc = .ok (.invokevirtual index, 3))
    (k : ∀ T' v L, Stand p l e R s m args below meth c T' (locs ++ L) (cells + rm.cells) (slots + rm.slots) → Q' v T'.heap L → own_Run p e below s CC SS Q T' (mkF m (pc + 3) Ls (v.toList ++ rest))) : own_Run p e below s CC SS Q T (mkF m pc Ls st) := by
  obtain ⟨cq, q1, q2⟩ := E.cell
  obtain ⟨cI, kI, hc, hk, -, hniab, -, -⟩ := Cond.instantiable_spec (mvT (args := args) hZ wi)
  have hni : kI.isInterface = false := (Bool.or_eq_false_iff.mp hniab).1
  have hpriv : s.PrivateAt y := Cond.privateMethod_at (mvP hZ wp (args := #[]))
  have hsel : (Cond.selects y.cls y y).before args s = true := selects_self_of_private hc hk hni hpriv (mvT hZ w2) hy
  obtain ⟨v, _, ⟨T1, L1, k1, n1⟩, -, X1, ⟨Lc, hQ, l1, y1, z1⟩, sp⟩ := X.privateBack hx (y := y) hown (mvT hZ w1) (mvT hZ w2) hsel hpriv (mvT hZ w4) hy (backOf (W := W) hM hZ w4 w3 hf hl) (g := mkF m pc Ls st) rfl hsize (Steps.refl _) (a := b) (by rw [eT]; exact q1) q2 (argsL := argsL) (rest := rest) hlen hs (by show 2 * 0 + _ ≤ _; omega) hd (fun _ _ => ⟨rfl, eT, hcl, hsl⟩)
  dsimp only [Pt.U, Pt.locs, Pt.cells, Pt.slots] at X1 l1 y1 z1 sp hQ
  subst l1 y1 z1
  exact own_run (fun t kt => sp.trans kt) (k T1 v Lc X1 hQ)
end Own
theorem own_pn1 : plainName "com/example/urd/urd/causes/EdgesFirstPinLaw" = true := by first | (simp [plainName, overriddenIn]; done) | decide +kernel
theorem own_ef1 (m : MethodId) (q0 : Int64) : entryFrame m #[(.long q0)] 2 = mkF m 0 #[.val (.long q0), .second] [] := by first | (simp [entryFrame, mkF, argsToLocals, Value.category]; done) | rfl
def own_R1 : Room := ({ frames := 0, cells := 0, slots := 0, locals := 0 } : Room)
def own_f1 (q0 : Int64) : Int32 := (if (2147483647 : Int64) < q0 then (2147483647 : Int32) else (if q0 < (-2147483648 : Int64) then (-2147483648 : Int32) else q0.toInt32))
def Q1 (z : Int32) (h0 : Heap) (n0 : Nat) (v : Option Value) (h : Heap) (L : List Loc) : Prop := v = some (Value.int z) ∧ Fr n0 L ∧ h = h0
theorem d1_0 : decode method_2_code 0 = .ok (.lload_n 0, 1) := by decide +kernel
theorem d1_1 : decode method_2_code 1 = .ok (.ldc2_w 9, 3) := by decide +kernel
theorem d1_4 : decode method_2_code 4 = .ok (.lcmp, 1) := by decide +kernel
theorem d1_5 : decode method_2_code 5 = .ok (.ifCond .le 6, 3) := by decide +kernel
theorem d1_8 : decode method_2_code 8 = .ok (.ldc 11, 2) := by decide +kernel
theorem d1_10 : decode method_2_code 10 = .ok (.ireturn, 1) := by decide +kernel
theorem d1_11 : decode method_2_code 11 = .ok (.lload_n 0, 1) := by decide +kernel
theorem d1_12 : decode method_2_code 12 = .ok (.ldc2_w 12, 3) := by decide +kernel
theorem d1_15 : decode method_2_code 15 = .ok (.lcmp, 1) := by decide +kernel
theorem d1_16 : decode method_2_code 16 = .ok (.ifCond .ge 6, 3) := by decide +kernel
theorem d1_19 : decode method_2_code 19 = .ok (.ldc 14, 2) := by decide +kernel
theorem d1_21 : decode method_2_code 21 = .ok (.ireturn, 1) := by decide +kernel
theorem d1_22 : decode method_2_code 22 = .ok (.lload_n 0, 1) := by decide +kernel
theorem d1_23 : decode method_2_code 23 = .ok (.l2i, 1) := by decide +kernel
theorem d1_24 : decode method_2_code 24 = .ok (.ireturn, 1) := by decide +kernel
set_option maxRecDepth 65536 in
set_option maxHeartbeats 40000000 in
theorem rm1 (l : Launch) (Z : State) (a0 : Array Value) (hw : ∀ d ∈ tables_1, d.before a0 Z = true) (ws : List Jvm.Cond) (q0 : Int64) (h0 : Heap) (n0 : Nat) :
    MetFree l (⟨"com/example/urd/urd/causes/EdgesFirstPinLaw", "sat", "(J)I"⟩ : MethodName) (head1 (Jvm.Cond.code (⟨"com/example/urd/urd/causes/EdgesFirstPinLaw", "sat", "(J)I"⟩ : MethodName) method_2_code 2 (some .int) :: ws) own_R1) (fun a U => a = #[(.long q0)] ∧ Z.Warmed39 U.vm ∧ U.heap = h0) (fun _ _ _ _ _ => True) (fun _ U o U' => ∃ v L, o = .returned v ∧ Q1 (own_f1 q0) h0 n0 v U'.heap L ∧ FrameEnd U o U' L own_R1.cells own_R1.slots) := by
  refine MetFree.of_bodySF (plainFor_of_name own_pn1) hisR ?_
  intro p e s m args below meth c s₁ Bd hml0 hP hK
  obtain ⟨ha, hZ, hh⟩ := hP
  have hx := Bd.exec
  have hby := Bd.bytes
  have hml : c.maxLocals = 2 := hml0
  have hown : s.vm.findClass "com/example/urd/urd/causes/EdgesFirstPinLaw" = some m.cls := findClass_of_methodNamed Bd.named
  have hnm := (name_of_methodNamed Bd.named Bd.method).1
  have X0 : Stand p l e own_R1 s m args below meth c s₁ [] 0 0 := Stand.of_body Bd
  have e0 : s₁.heap = h0 := by rw [← hh, Bd.state]; rfl
  have N0 := Fr.nil n0
  refine own_enter (Q := (Q1 (own_f1 q0) h0 n0)) (g := mkF m 0 #[.val (.long q0), .second] []) (by rw [ha]; exact own_ef1 m q0) ?_
  refine own_run (g' := (mkF m 1 #[.val (.long q0), .second] [(.long q0)])) (fun _ kt => XS.lloadN X0.here hx rfl (hb hby d1_0) rfl (kt)) ?_
  refine own_ldcL X0 hx hZ hown (hw _ (List.mem_of_getElem? (i := 5) rfl)) (hb hby d1_1) ?_
  refine own_run (g' := (mkF m 5 #[.val (.long q0), .second] [(.int (XT.cmpL q0 (2147483647 : Int64)))])) (fun _ kt => XS.lcmp X0.here hx rfl (hb hby d1_4) rfl (kt)) ?_
  by_cases hc5 : (2147483647 : Int64) < q0
  · refine own_run (g' := (mkF m 8 #[.val (.long q0), .second] [])) (fun _ kt => XS.ifNo X0.here hx rfl (hb hby d1_5) rfl ((own_cgt hc5).2) (kt)) ?_
    refine own_ldcI X0 hx hZ hown (hw _ (List.mem_of_getElem? (i := 0) rfl)) (hb hby d1_8) ?_
    have hf : own_f1 q0 = (2147483647 : Int32) := by unfold own_f1; rw [if_pos hc5]
    exact own_retI X0 hx Bd.notSynchronized Bd.returns (hb hby d1_10) (by decide) (by decide) ⟨congrArg (fun z => some (Value.int z)) hf.symm, N0, e0⟩
  · refine own_run (g' := (mkF m 12 #[.val (.long q0), .second] [(.long q0)])) (fun _ kt => XS.ifYes X0.here hx rfl (pc0 := 5) (pc' := 11) rfl (hb hby d1_5) rfl ((own_cngt hc5).2) (by decide) (by decide) (XS.lloadN X0.here hx rfl (hb hby d1_11) rfl (kt))) ?_
    refine own_ldcL X0 hx hZ hown (hw _ (List.mem_of_getElem? (i := 6) rfl)) (hb hby d1_12) ?_
    refine own_run (g' := (mkF m 16 #[.val (.long q0), .second] [(.int (XT.cmpL q0 (-2147483648 : Int64)))])) (fun _ kt => XS.lcmp X0.here hx rfl (hb hby d1_15) rfl (kt)) ?_
    by_cases hc16 : q0 < (-2147483648 : Int64)
    · refine own_run (g' := (mkF m 19 #[.val (.long q0), .second] [])) (fun _ kt => XS.ifNo X0.here hx rfl (hb hby d1_16) rfl ((own_clt hc16).2) (kt)) ?_
      refine own_ldcI X0 hx hZ hown (hw _ (List.mem_of_getElem? (i := 38) rfl)) (hb hby d1_19) ?_
      have hf : own_f1 q0 = (-2147483648 : Int32) := by unfold own_f1; rw [if_neg hc5, if_pos hc16]
      exact own_retI X0 hx Bd.notSynchronized Bd.returns (hb hby d1_21) (by decide) (by decide) ⟨congrArg (fun z => some (Value.int z)) hf.symm, N0, e0⟩
    · refine own_run (g' := (mkF m 24 #[.val (.long q0), .second] [(.int q0.toInt32)])) (fun _ kt => XS.ifYes X0.here hx rfl (pc0 := 16) (pc' := 22) rfl (hb hby d1_16) rfl ((own_cnlt hc16).2) (by decide) (by decide) (XS.lloadN X0.here hx rfl (hb hby d1_22) rfl (XS.l2i X0.here hx rfl (hb hby d1_23) rfl (kt)))) ?_
      have hf : own_f1 q0 = q0.toInt32 := by unfold own_f1; rw [if_neg hc5, if_neg hc16]
      exact own_retI X0 hx Bd.notSynchronized Bd.returns (hb hby d1_24) (by decide) (by decide) ⟨congrArg (fun z => some (Value.int z)) hf.symm, N0, e0⟩
theorem own_pn4 : plainName "com/example/urd/urd/causes/EdgesFirstPinLaw" = true := by first | (simp [plainName, overriddenIn]; done) | decide +kernel
theorem own_ef4 (m : MethodId) (p0 : Int32) (p1 : Int32) (p2 : Int32) : entryFrame m #[(.int p0), (.int p1), (.int p2)] 3 = mkF m 0 #[.val (.int p0), .val (.int p1), .val (.int p2)] [] := by first | (simp [entryFrame, mkF, argsToLocals, Value.category]; done) | rfl
def own_R4 : Room := ({ frames := 0, cells := 0, slots := 0, locals := 0 } : Room)
def own_f4 (p0 : Int32) (p1 : Int32) (p2 : Int32) : Int32 := (if p0 = (0 : Int32) then (0 : Int32) else (if p1 < p2 then (1 : Int32) else (0 : Int32)))
def Q4 (z : Int32) (h0 : Heap) (n0 : Nat) (v : Option Value) (h : Heap) (L : List Loc) : Prop := v = some (Value.int z) ∧ Fr n0 L ∧ h = h0
theorem d4_0 : decode method_3_code 0 = .ok (.iload_n 0, 1) := by decide +kernel
theorem d4_1 : decode method_3_code 1 = .ok (.ifCond .eq 12, 3) := by decide +kernel
theorem d4_4 : decode method_3_code 4 = .ok (.iload_n 1, 1) := by decide +kernel
theorem d4_5 : decode method_3_code 5 = .ok (.iload_n 2, 1) := by decide +kernel
theorem d4_6 : decode method_3_code 6 = .ok (.if_icmp .ge 7, 3) := by decide +kernel
theorem d4_9 : decode method_3_code 9 = .ok (.iconst 1, 1) := by decide +kernel
theorem d4_10 : decode method_3_code 10 = .ok (.goto 4, 3) := by decide +kernel
theorem d4_13 : decode method_3_code 13 = .ok (.iconst 0, 1) := by decide +kernel
theorem d4_14 : decode method_3_code 14 = .ok (.ireturn, 1) := by decide +kernel
set_option maxRecDepth 65536 in
set_option maxHeartbeats 40000000 in
theorem rm4 (l : Launch) (Z : State) (a0 : Array Value) (hw : ∀ d ∈ tables_1, d.before a0 Z = true) (ws : List Jvm.Cond) (p0 : Int32) (p1 : Int32) (p2 : Int32) (h0 : Heap) (n0 : Nat) :
    MetFree l (⟨"com/example/urd/urd/causes/EdgesFirstPinLaw", "below", "(ZII)I"⟩ : MethodName) (head1 (Jvm.Cond.code (⟨"com/example/urd/urd/causes/EdgesFirstPinLaw", "below", "(ZII)I"⟩ : MethodName) method_3_code 3 (some .int) :: ws) own_R4) (fun a U => a = #[(.int p0), (.int p1), (.int p2)] ∧ Z.Warmed39 U.vm ∧ U.heap = h0) (fun _ _ _ _ _ => True) (fun _ U o U' => ∃ v L, o = .returned v ∧ Q4 (own_f4 p0 p1 p2) h0 n0 v U'.heap L ∧ FrameEnd U o U' L own_R4.cells own_R4.slots) := by
  refine MetFree.of_bodySF (plainFor_of_name own_pn4) hisR ?_
  intro p e s m args below meth c s₁ Bd hml0 hP hK
  obtain ⟨ha, hZ, hh⟩ := hP
  have hx := Bd.exec
  have hby := Bd.bytes
  have hml : c.maxLocals = 3 := hml0
  have hown : s.vm.findClass "com/example/urd/urd/causes/EdgesFirstPinLaw" = some m.cls := findClass_of_methodNamed Bd.named
  have hnm := (name_of_methodNamed Bd.named Bd.method).1
  have X0 : Stand p l e own_R4 s m args below meth c s₁ [] 0 0 := Stand.of_body Bd
  have e0 : s₁.heap = h0 := by rw [← hh, Bd.state]; rfl
  have N0 := Fr.nil n0
  refine own_enter (Q := (Q4 (own_f4 p0 p1 p2) h0 n0)) (g := mkF m 0 #[.val (.int p0), .val (.int p1), .val (.int p2)] []) (by rw [ha]; exact own_ef4 m p0 p1 p2) ?_
  refine own_run (g' := (mkF m 1 #[.val (.int p0), .val (.int p1), .val (.int p2)] [(.int p0)])) (fun _ kt => XS.iloadN X0.here hx rfl (hb hby d4_0) rfl (kt)) ?_
  by_cases hc1 : p0 = (0 : Int32)
  · refine own_run (g' := (mkF m 14 #[.val (.int p0), .val (.int p1), .val (.int p2)] [(.int (0 : Int32))])) (fun _ kt => XS.ifYes X0.here hx rfl (pc0 := 1) (pc' := 13) rfl (hb hby d4_1) rfl ((if0 _ _).trans (teq hc1).1) (by decide) (by decide) (XS.iconst X0.here hx rfl (hb hby d4_13) (kt))) ?_
    have hf : own_f4 p0 p1 p2 = (0 : Int32) := by unfold own_f4; rw [if_pos hc1]
    exact own_retI X0 hx Bd.notSynchronized Bd.returns (hb hby d4_14) (by decide) (by decide) ⟨congrArg (fun z => some (Value.int z)) hf.symm, N0, e0⟩
  · refine own_run (g' := (mkF m 6 #[.val (.int p0), .val (.int p1), .val (.int p2)] [(.int p2), (.int p1)])) (fun _ kt => XS.ifNo X0.here hx rfl (hb hby d4_1) rfl ((if0 _ _).trans (feq hc1).1) (XS.iloadN X0.here hx rfl (hb hby d4_4) rfl (XS.iloadN X0.here hx rfl (hb hby d4_5) rfl (kt)))) ?_
    by_cases hc6 : p1 < p2
    · refine own_run (g' := (mkF m 14 #[.val (.int p0), .val (.int p1), .val (.int p2)] [(.int (1 : Int32))])) (fun _ kt => XS.icmpNo X0.here hx rfl (hb hby d4_6) rfl ((tlt hc6).2.1) (XS.iconst X0.here hx rfl (hb hby d4_9) (XS.goto X0.here hx rfl (pc0 := 10) (pc' := 14) rfl (hb hby d4_10) (by decide) (by decide) (kt)))) ?_
      have hf : own_f4 p0 p1 p2 = (1 : Int32) := by unfold own_f4; rw [if_neg hc1, if_pos hc6]
      exact own_retI X0 hx Bd.notSynchronized Bd.returns (hb hby d4_14) (by decide) (by decide) ⟨congrArg (fun z => some (Value.int z)) hf.symm, N0, e0⟩
    · refine own_run (g' := (mkF m 14 #[.val (.int p0), .val (.int p1), .val (.int p2)] [(.int (0 : Int32))])) (fun _ kt => XS.icmpYes X0.here hx rfl (pc0 := 6) (pc' := 13) rfl (hb hby d4_6) rfl ((flt hc6).2.1) (by decide) (by decide) (XS.iconst X0.here hx rfl (hb hby d4_13) (kt))) ?_
      have hf : own_f4 p0 p1 p2 = (0 : Int32) := by unfold own_f4; rw [if_neg hc1, if_neg hc6]
      exact own_retI X0 hx Bd.notSynchronized Bd.returns (hb hby d4_14) (by decide) (by decide) ⟨congrArg (fun z => some (Value.int z)) hf.symm, N0, e0⟩
theorem own_pn2 : plainName "com/example/urd/urd/causes/Edges" = true := by first | (simp [plainName, overriddenIn]; done) | decide +kernel
theorem own_ef2 (m : MethodId) (o0 : Addr) : entryFrame m #[(.ref o0)] 1 = mkF m 0 #[.val (.ref o0)] [] := by first | (simp [entryFrame, mkF, argsToLocals, Value.category]; done) | rfl
def own_R2 : Room := ({ frames := 1, cells := 3, slots := 192, locals := 14 } : Room)
def Q2 (Z : State) (o0 : Addr) (h0 : Heap) (n0 : Nat) (v : Option Value) (h : Heap) (L : List Loc) : Prop := v = none ∧ Fr n0 L ∧ Keep h0 h [o0] ∧ ∃ x y z : Addr, n0 ≤ x ∧ n0 ≤ y ∧ n0 ≤ z ∧ o0 ≠ x ∧ o0 ≠ y ∧ o0 ≠ z ∧ x ≠ y ∧ x ≠ z ∧ y ≠ z ∧ Fld Z h o0 "com/example/urd/urd/causes/Edges" "from" "[I" (.ref x) ∧ Fld Z h o0 "com/example/urd/urd/causes/Edges" "event" "[I" (.ref y) ∧ Fld Z h o0 "com/example/urd/urd/causes/Edges" "to" "[I" (.ref z) ∧ Fld Z h o0 "com/example/urd/urd/causes/Edges" "size" "I" (.int (0 : Int32)) ∧ own_A Z h x .int (64 : Int32) (List.replicate (64 : Int32).toNatClampNeg 0) ∧ own_A Z h y .int (64 : Int32) (List.replicate (64 : Int32).toNatClampNeg 0) ∧ own_A Z h z .int (64 : Int32) (List.replicate (64 : Int32).toNatClampNeg 0)
theorem d2_0 : decode prog_6_method_1_code 0 = .ok (.aload_n 0, 1) := by decide +kernel
theorem d2_1 : decode prog_6_method_1_code 1 = .ok (.invokespecial 1, 3) := by decide +kernel
theorem d2_4 : decode prog_6_method_1_code 4 = .ok (.aload_n 0, 1) := by decide +kernel
theorem d2_5 : decode prog_6_method_1_code 5 = .ok (.bipush 64, 2) := by decide +kernel
theorem d2_7 : decode prog_6_method_1_code 7 = .ok (.newarray .int, 2) := by decide +kernel
theorem d2_9 : decode prog_6_method_1_code 9 = .ok (.putfield 7, 3) := by decide +kernel
theorem d2_12 : decode prog_6_method_1_code 12 = .ok (.aload_n 0, 1) := by decide +kernel
theorem d2_13 : decode prog_6_method_1_code 13 = .ok (.bipush 64, 2) := by decide +kernel
theorem d2_15 : decode prog_6_method_1_code 15 = .ok (.newarray .int, 2) := by decide +kernel
theorem d2_17 : decode prog_6_method_1_code 17 = .ok (.putfield 13, 3) := by decide +kernel
theorem d2_20 : decode prog_6_method_1_code 20 = .ok (.aload_n 0, 1) := by decide +kernel
theorem d2_21 : decode prog_6_method_1_code 21 = .ok (.bipush 64, 2) := by decide +kernel
theorem d2_23 : decode prog_6_method_1_code 23 = .ok (.newarray .int, 2) := by decide +kernel
theorem d2_25 : decode prog_6_method_1_code 25 = .ok (.putfield 16, 3) := by decide +kernel
theorem d2_28 : decode prog_6_method_1_code 28 = .ok (.return_, 1) := by decide +kernel
set_option maxRecDepth 65536 in
set_option maxHeartbeats 40000000 in
theorem rm2 (l : Launch) (Z : State) (a0 : Array Value) (hw : ∀ d ∈ tables_1, d.before a0 Z = true) (ws : List Jvm.Cond) (o0 : Addr) (h0 : Heap) (n0 : Nat) (Z0 : n0 ≤ h0.size) (K0 : Exa Z h0 o0 "com/example/urd/urd/causes/Edges") (F0_0 : Fld Z h0 o0 "com/example/urd/urd/causes/Edges" "from" "[I" .null) (F0_1 : Fld Z h0 o0 "com/example/urd/urd/causes/Edges" "event" "[I" .null) (F0_2 : Fld Z h0 o0 "com/example/urd/urd/causes/Edges" "to" "[I" .null) (F0_3 : Fld Z h0 o0 "com/example/urd/urd/causes/Edges" "size" "I" (.int (0 : Int32))) (g_o0 : n0 ≤ o0) :
    MetFree l (⟨"com/example/urd/urd/causes/Edges", "<init>", "()V"⟩ : MethodName) (head1 (Jvm.Cond.code (⟨"com/example/urd/urd/causes/Edges", "<init>", "()V"⟩ : MethodName) prog_6_method_1_code 1 none :: ws) own_R2) (fun a U => a = #[(.ref o0)] ∧ Z.Warmed39 U.vm ∧ U.heap = h0) (fun _ _ _ _ _ => True) (fun _ U o U' => ∃ v L, o = .returned v ∧ Q2 Z o0 h0 n0 v U'.heap L ∧ FrameEnd U o U' L own_R2.cells own_R2.slots) := by
  refine MetFree.of_bodySF (plainFor_of_name own_pn2) hisR ?_
  intro p e s m args below meth c s₁ Bd hml0 hP hK
  obtain ⟨ha, hZ, hh⟩ := hP
  have hx := Bd.exec
  have hby := Bd.bytes
  have hml : c.maxLocals = 1 := hml0
  have hown : s.vm.findClass "com/example/urd/urd/causes/Edges" = some m.cls := findClass_of_methodNamed Bd.named
  have hnm := (name_of_methodNamed Bd.named Bd.method).1
  have X0 : Stand p l e own_R2 s m args below meth c s₁ [] 0 0 := Stand.of_body Bd
  have e0 : s₁.heap = h0 := by rw [← hh, Bd.state]; rfl
  have N0 := Fr.nil n0
  refine own_enter (Q := (Q2 Z o0 h0 n0)) (g := mkF m 0 #[.val (.ref o0)] []) (by rw [ha]; exact own_ef2 m o0) ?_
  refine own_run (g' := (mkF m 1 #[.val (.ref o0)] [(.ref o0)])) (fun _ kt => XS.aloadN X0.here hx rfl (hb hby d2_0) rfl rfl (kt)) ?_
  refine own_initO X0 hx hZ hown (hw _ (List.mem_of_getElem? (i := 13) rfl)) (hw _ (List.mem_of_getElem? (i := 14) rfl)) (hw _ (List.mem_of_getElem? (i := 15) rfl)) e0 (by rw [hml]; rfl) (hb hby d2_1) (by decide) (W := 0) (Nat.le_of_eq rfl) (by decide) ?_
  intro T1 X1 e1
  refine own_run (g' := (mkF m 7 #[.val (.ref o0)] [(.int (64 : Int32)), (.ref o0)])) (fun _ kt => XS.aloadN X1.here hx rfl (hb hby d2_4) rfl rfl (XS.bipush X1.here hx rfl (hb hby d2_5) (kt))) ?_
  refine own_newA X1 hx hZ (aty := .int) (hw _ (List.mem_of_getElem? (i := 16) rfl)) (ty := .int) rfl rfl e1 (hb hby d2_7) (by decide) (cap := 64) (by decide) (by decide) (by decide) (by decide) ?_
  intro T2 h2 b2 qq2 X2 e2 E2 A2
  have ne_o0_b2 : o0 ≠ b2 := Nat.ne_of_lt (by rw [qq2]; exact K0.lt)
  replace K0 := K0.ext E2
  replace F0_0 := F0_0.ext E2
  replace F0_1 := F0_1.ext E2
  replace F0_2 := F0_2.ext E2
  replace F0_3 := F0_3.ext E2
  have g_b2 : n0 ≤ b2 := by rw [qq2]; exact Z0
  have Z2 : n0 ≤ h2.size := Nat.le_trans Z0 E2.1
  have sz_b2 : h0.size ≤ b2 := by rw [qq2]; exact (Keep.refl h0 [o0]).1
  have Kp2 : Keep h0 h2 [o0] := Keep.ext (Keep.refl h0 [o0]) E2
  refine own_putF X2 hx hZ hown (host := "") (Or.inl (hw _ (List.mem_of_getElem? (i := 17) rfl))) Via.refl e2 F0_0 K0 (Or.inl (hw _ (List.mem_of_getElem? (i := 18) rfl))) (hw _ (List.mem_of_getElem? (i := 8) rfl)) (ty := (.array .int)) (by decide) rfl rfl N0 g_o0 (hb hby d2_9) ?_
  intro T3 h3 L3 X3 N3 e3 W3 F3
  replace K0 := K0.wr W3
  replace F0_1 := F0_1.other W3 (Or.inr (slot_ne (Or.inl (hw _ (List.mem_of_getElem? (i := 20) rfl))) (Or.inl (hw _ (List.mem_of_getElem? (i := 18) rfl))) (by decide) (t := (.array .int)) (t' := (.array .int)) (by decide) (by decide)))
  replace F0_2 := F0_2.other W3 (Or.inr (slot_ne (Or.inl (hw _ (List.mem_of_getElem? (i := 22) rfl))) (Or.inl (hw _ (List.mem_of_getElem? (i := 18) rfl))) (by decide) (t := (.array .int)) (t' := (.array .int)) (by decide) (by decide)))
  replace F0_3 := F0_3.other W3 (Or.inr (slot_ne (Or.inl (hw _ (List.mem_of_getElem? (i := 32) rfl))) (Or.inl (hw _ (List.mem_of_getElem? (i := 18) rfl))) (by decide) (t := .int) (t' := (.array .int)) (by decide) (by decide)))
  replace A2 := A2.other W3 (Ne.symm ne_o0_b2)
  have KpW3 : Keep h0 h3 [o0] := Keep.wr Kp2 W3 (Or.inl (List.mem_of_getElem? (i := 0) rfl))
  have ZW3 : n0 ≤ h3.size := Nat.le_trans Z2 (Keep.of_wr W3).1
  refine own_run (g' := (mkF m 15 #[.val (.ref o0)] [(.int (64 : Int32)), (.ref o0)])) (fun _ kt => XS.aloadN X3.here hx rfl (hb hby d2_12) rfl rfl (XS.bipush X3.here hx rfl (hb hby d2_13) (kt))) ?_
  refine own_newA X3 hx hZ (aty := .int) (hw _ (List.mem_of_getElem? (i := 16) rfl)) (ty := .int) rfl rfl e3 (hb hby d2_15) (by decide) (cap := 64) (by decide) (by decide) (by decide) (by decide) ?_
  intro T4 h4 b4 qq4 X4 e4 E4 A4
  have ne_o0_b4 : o0 ≠ b4 := Nat.ne_of_lt (by rw [qq4]; exact K0.lt)
  have ne_b2_b4 : b2 ≠ b4 := Nat.ne_of_lt (by rw [qq4]; exact A2.lt)
  replace K0 := K0.ext E4
  replace F3 := F3.ext E4
  replace F0_1 := F0_1.ext E4
  replace F0_2 := F0_2.ext E4
  replace F0_3 := F0_3.ext E4
  replace A2 := A2.ext E4
  have g_b4 : n0 ≤ b4 := by rw [qq4]; exact ZW3
  have Z4 : n0 ≤ h4.size := Nat.le_trans ZW3 E4.1
  have sz_b4 : h0.size ≤ b4 := by rw [qq4]; exact KpW3.1
  have Kp4 : Keep h0 h4 [o0] := Keep.ext KpW3 E4
  refine own_putF X4 hx hZ hown (host := "") (Or.inl (hw _ (List.mem_of_getElem? (i := 19) rfl))) Via.refl e4 F0_1 K0 (Or.inl (hw _ (List.mem_of_getElem? (i := 20) rfl))) (hw _ (List.mem_of_getElem? (i := 8) rfl)) (ty := (.array .int)) (by decide) rfl rfl N3 g_o0 (hb hby d2_17) ?_
  intro T5 h5 L5 X5 N5 e5 W5 F5
  replace K0 := K0.wr W5
  replace F3 := F3.other W5 (Or.inr (slot_ne (Or.inl (hw _ (List.mem_of_getElem? (i := 18) rfl))) (Or.inl (hw _ (List.mem_of_getElem? (i := 20) rfl))) (by decide) (t := (.array .int)) (t' := (.array .int)) (by decide) (by decide)))
  replace F0_2 := F0_2.other W5 (Or.inr (slot_ne (Or.inl (hw _ (List.mem_of_getElem? (i := 22) rfl))) (Or.inl (hw _ (List.mem_of_getElem? (i := 20) rfl))) (by decide) (t := (.array .int)) (t' := (.array .int)) (by decide) (by decide)))
  replace F0_3 := F0_3.other W5 (Or.inr (slot_ne (Or.inl (hw _ (List.mem_of_getElem? (i := 32) rfl))) (Or.inl (hw _ (List.mem_of_getElem? (i := 20) rfl))) (by decide) (t := .int) (t' := (.array .int)) (by decide) (by decide)))
  replace A2 := A2.other W5 (Ne.symm ne_o0_b2)
  replace A4 := A4.other W5 (Ne.symm ne_o0_b4)
  have KpW5 : Keep h0 h5 [o0] := Keep.wr Kp4 W5 (Or.inl (List.mem_of_getElem? (i := 0) rfl))
  have ZW5 : n0 ≤ h5.size := Nat.le_trans Z4 (Keep.of_wr W5).1
  refine own_run (g' := (mkF m 23 #[.val (.ref o0)] [(.int (64 : Int32)), (.ref o0)])) (fun _ kt => XS.aloadN X5.here hx rfl (hb hby d2_20) rfl rfl (XS.bipush X5.here hx rfl (hb hby d2_21) (kt))) ?_
  refine own_newA X5 hx hZ (aty := .int) (hw _ (List.mem_of_getElem? (i := 16) rfl)) (ty := .int) rfl rfl e5 (hb hby d2_23) (by decide) (cap := 64) (by decide) (by decide) (by decide) (by decide) ?_
  intro T6 h6 b6 qq6 X6 e6 E6 A6
  have ne_o0_b6 : o0 ≠ b6 := Nat.ne_of_lt (by rw [qq6]; exact K0.lt)
  have ne_b2_b6 : b2 ≠ b6 := Nat.ne_of_lt (by rw [qq6]; exact A2.lt)
  have ne_b4_b6 : b4 ≠ b6 := Nat.ne_of_lt (by rw [qq6]; exact A4.lt)
  replace K0 := K0.ext E6
  replace F3 := F3.ext E6
  replace F5 := F5.ext E6
  replace F0_2 := F0_2.ext E6
  replace F0_3 := F0_3.ext E6
  replace A2 := A2.ext E6
  replace A4 := A4.ext E6
  have g_b6 : n0 ≤ b6 := by rw [qq6]; exact ZW5
  have Z6 : n0 ≤ h6.size := Nat.le_trans ZW5 E6.1
  have sz_b6 : h0.size ≤ b6 := by rw [qq6]; exact KpW5.1
  have Kp6 : Keep h0 h6 [o0] := Keep.ext KpW5 E6
  refine own_putF X6 hx hZ hown (host := "") (Or.inl (hw _ (List.mem_of_getElem? (i := 21) rfl))) Via.refl e6 F0_2 K0 (Or.inl (hw _ (List.mem_of_getElem? (i := 22) rfl))) (hw _ (List.mem_of_getElem? (i := 8) rfl)) (ty := (.array .int)) (by decide) rfl rfl N5 g_o0 (hb hby d2_25) ?_
  intro T7 h7 L7 X7 N7 e7 W7 F7
  replace K0 := K0.wr W7
  replace F3 := F3.other W7 (Or.inr (slot_ne (Or.inl (hw _ (List.mem_of_getElem? (i := 18) rfl))) (Or.inl (hw _ (List.mem_of_getElem? (i := 22) rfl))) (by decide) (t := (.array .int)) (t' := (.array .int)) (by decide) (by decide)))
  replace F5 := F5.other W7 (Or.inr (slot_ne (Or.inl (hw _ (List.mem_of_getElem? (i := 20) rfl))) (Or.inl (hw _ (List.mem_of_getElem? (i := 22) rfl))) (by decide) (t := (.array .int)) (t' := (.array .int)) (by decide) (by decide)))
  replace F0_3 := F0_3.other W7 (Or.inr (slot_ne (Or.inl (hw _ (List.mem_of_getElem? (i := 32) rfl))) (Or.inl (hw _ (List.mem_of_getElem? (i := 22) rfl))) (by decide) (t := .int) (t' := (.array .int)) (by decide) (by decide)))
  replace A2 := A2.other W7 (Ne.symm ne_o0_b2)
  replace A4 := A4.other W7 (Ne.symm ne_o0_b4)
  replace A6 := A6.other W7 (Ne.symm ne_o0_b6)
  have KpW7 : Keep h0 h7 [o0] := Keep.wr Kp6 W7 (Or.inl (List.mem_of_getElem? (i := 0) rfl))
  have ZW7 : n0 ≤ h7.size := Nat.le_trans Z6 (Keep.of_wr W7).1
  exact own_retV X7 hx Bd.notSynchronized Bd.returns (hb hby d2_28) (by decide) (by decide) (by rw [e7]; exact ⟨rfl, N7, KpW7, b2, b4, b6, g_b2, g_b4, g_b6, ne_o0_b2, ne_o0_b4, ne_o0_b6, ne_b2_b4, ne_b2_b6, ne_b4_b6, F3, F5, F7, F0_3, A2, A4, A6⟩)
theorem own_pn6 : plainName "com/example/urd/urd/causes/Edges" = true := by first | (simp [plainName, overriddenIn]; done) | decide +kernel
theorem own_ef6 (m : MethodId) (o0 : Addr) (p1 : Int32) (p2 : Int32) (p3 : Int32) : entryFrame m #[(.ref o0), (.int p1), (.int p2), (.int p3)] 4 = mkF m 0 #[.val (.ref o0), .val (.int p1), .val (.int p2), .val (.int p3)] [] := by first | (simp [entryFrame, mkF, argsToLocals, Value.category]; done) | rfl
def own_R6 : Room := ({ frames := 0, cells := 0, slots := 0, locals := 0 } : Room)
def Q6 (Z : State) (o0 : Addr) (p1 : Int32) (p2 : Int32) (p3 : Int32) (x y z : Addr) (s0 : Int32) (xs ys zs : List Int32) (h0 : Heap) (n0 : Nat) (v : Option Value) (h : Heap) (L : List Loc) : Prop := v = none ∧ Fr n0 L ∧ Keep h0 h [o0, x, y, z] ∧ Fld Z h o0 "com/example/urd/urd/causes/Edges" "from" "[I" (.ref x) ∧ Fld Z h o0 "com/example/urd/urd/causes/Edges" "event" "[I" (.ref y) ∧ Fld Z h o0 "com/example/urd/urd/causes/Edges" "to" "[I" (.ref z) ∧ Fld Z h o0 "com/example/urd/urd/causes/Edges" "size" "I" (.int (s0 + (1 : Int32))) ∧ own_A Z h x .int (64 : Int32) (xs.set s0.toNatClampNeg p1) ∧ own_A Z h y .int (64 : Int32) (ys.set s0.toNatClampNeg p2) ∧ own_A Z h z .int (64 : Int32) (zs.set s0.toNatClampNeg p3)
theorem own_prev {s : Int32} (h : ¬ s < 0 ∧ s < (64 : Int32)) (h0 : (0 : Int32) < s) : ¬ s - (1 : Int32) < 0 ∧ s - (1 : Int32) < (64 : Int32) := by
  obtain ⟨h1, h2⟩ := h
  rw [Int32.lt_iff_toInt_lt] at h0 h1 h2
  have e0 : (0 : Int32).toInt = 0 := rfl
  have e1 : (1 : Int32).toInt = 1 := rfl
  have e2 : (64 : Int32).toInt = 64 := rfl
  rw [Int32.lt_iff_toInt_lt, Int32.lt_iff_toInt_lt, Jvm.Kit.i32_sub (by omega) (by omega)]; omega
theorem own_n6 (x : Int32) : ((x &&& (2147483647 : Int32)) % (6 : Int32)) = 0 ∨ ((x &&& (2147483647 : Int32)) % (6 : Int32)) = 1 ∨ ((x &&& (2147483647 : Int32)) % (6 : Int32)) = 2 ∨ ((x &&& (2147483647 : Int32)) % (6 : Int32)) = 3 ∨ ((x &&& (2147483647 : Int32)) % (6 : Int32)) = 4 ∨ ((x &&& (2147483647 : Int32)) % (6 : Int32)) = 5 := by
  have e := Jvm.Kit.i32_mask x 2147483647 (k := 31) (by decide) (by decide)
  have e9 : (6 : Int32).toInt = 6 := rfl
  have r := Jvm.Kit.i32_rem_nonneg (x := x &&& (2147483647 : Int32)) (y := 6) (by rw [e]; omega)
  rw [e9] at r
  have hb : (x &&& (2147483647 : Int32)).toInt % 6 = 0 ∨ (x &&& (2147483647 : Int32)).toInt % 6 = 1 ∨ (x &&& (2147483647 : Int32)).toInt % 6 = 2 ∨ (x &&& (2147483647 : Int32)).toInt % 6 = 3 ∨ (x &&& (2147483647 : Int32)).toInt % 6 = 4 ∨ (x &&& (2147483647 : Int32)).toInt % 6 = 5 := by omega
  rcases hb with h | h | h | h | h | h
  · exact Or.inl (Int32.toInt_inj.mp (r.trans h))
  · exact Or.inr (Or.inl (Int32.toInt_inj.mp (r.trans h)))
  · exact Or.inr (Or.inr (Or.inl (Int32.toInt_inj.mp (r.trans h))))
  · exact Or.inr (Or.inr (Or.inr (Or.inl (Int32.toInt_inj.mp (r.trans h)))))
  · exact Or.inr (Or.inr (Or.inr (Or.inr (Or.inl (Int32.toInt_inj.mp (r.trans h))))))
  · exact Or.inr (Or.inr (Or.inr (Or.inr (Or.inr (Int32.toInt_inj.mp (r.trans h))))))
theorem own_ge (a g : Int32) : a.toInt ≤ (own_f1 (a.toInt64 + (g &&& (3 : Int32)).toInt64)).toInt := by
  have e := Jvm.Kit.i32_mask g 3 (k := 2) (by decide) (by decide)
  have b1 := a.toInt_lt; have b2 := a.le_toInt
  have es : (a.toInt64 + (g &&& (3 : Int32)).toInt64).toInt = a.toInt + g.toInt % 2 ^ 2 := by
    rw [Int64.toInt_add, Int32.toInt_toInt64, Int32.toInt_toInt64, e]; exact Jvm.Kit.bmod64 (by omega) (by omega)
  have c1 : (2147483647 : Int64).toInt = 2147483647 := rfl
  have c2 : (-2147483648 : Int64).toInt = -2147483648 := rfl
  have d1 : (2147483647 : Int32).toInt = 2147483647 := rfl
  unfold own_f1
  split
  · rw [d1]; omega
  · rename_i h1
    rw [Int64.lt_iff_toInt_lt, es, c1] at h1
    split
    · rename_i h2
      rw [Int64.lt_iff_toInt_lt, es, c2] at h2
      omega
    · rw [Jvm.Kit.i32_of_i64 (by omega) (by omega), es]; omega
theorem own_xk1 (n f0 s1 : Int32) (X0 X1 : List Int32) (hs1 : s1 = (if (0 : Int32) < n then ((0 : Int32) + (1 : Int32)) else (0 : Int32))) (hx1 : X1 = (if (0 : Int32) < n then (X0.set (0 : Int32).toNatClampNeg f0) else X0)) (h : (0 : Int32) < n) : s1 = (1 : Int32) ∧ X1 = (X0.set 0 f0) := by
  rw [if_pos h] at hs1 hx1
  exact ⟨hs1, hx1⟩
theorem own_xk2 (n f0 f1 s1 s2 : Int32) (X0 X1 X2 : List Int32) (hs1 : s1 = (if (0 : Int32) < n then ((0 : Int32) + (1 : Int32)) else (0 : Int32))) (hx1 : X1 = (if (0 : Int32) < n then (X0.set (0 : Int32).toNatClampNeg f0) else X0)) (hs2 : s2 = (if (1 : Int32) < n then (s1 + (1 : Int32)) else s1)) (hx2 : X2 = (if (1 : Int32) < n then (X1.set s1.toNatClampNeg f1) else X1)) (h : (1 : Int32) < n) : s2 = (2 : Int32) ∧ X2 = ((X0.set 0 f0).set 1 f1) := by
  have e := own_xk1 n f0 s1 X0 X1 hs1 hx1 (Int32.lt_trans (by decide) h)
  rw [if_pos h, e.1] at hs2
  rw [if_pos h, e.1, e.2] at hx2
  exact ⟨hs2, hx2⟩
theorem own_xk3 (n f0 f1 f2 s1 s2 s3 : Int32) (X0 X1 X2 X3 : List Int32) (hs1 : s1 = (if (0 : Int32) < n then ((0 : Int32) + (1 : Int32)) else (0 : Int32))) (hx1 : X1 = (if (0 : Int32) < n then (X0.set (0 : Int32).toNatClampNeg f0) else X0)) (hs2 : s2 = (if (1 : Int32) < n then (s1 + (1 : Int32)) else s1)) (hx2 : X2 = (if (1 : Int32) < n then (X1.set s1.toNatClampNeg f1) else X1)) (hs3 : s3 = (if (2 : Int32) < n then (s2 + (1 : Int32)) else s2)) (hx3 : X3 = (if (2 : Int32) < n then (X2.set s2.toNatClampNeg f2) else X2)) (h : (2 : Int32) < n) : s3 = (3 : Int32) ∧ X3 = (((X0.set 0 f0).set 1 f1).set 2 f2) := by
  have e := own_xk2 n f0 f1 s1 s2 X0 X1 X2 hs1 hx1 hs2 hx2 (Int32.lt_trans (by decide) h)
  rw [if_pos h, e.1] at hs3
  rw [if_pos h, e.1, e.2] at hx3
  exact ⟨hs3, hx3⟩
theorem own_xk4 (n f0 f1 f2 f3 s1 s2 s3 s4 : Int32) (X0 X1 X2 X3 X4 : List Int32) (hs1 : s1 = (if (0 : Int32) < n then ((0 : Int32) + (1 : Int32)) else (0 : Int32))) (hx1 : X1 = (if (0 : Int32) < n then (X0.set (0 : Int32).toNatClampNeg f0) else X0)) (hs2 : s2 = (if (1 : Int32) < n then (s1 + (1 : Int32)) else s1)) (hx2 : X2 = (if (1 : Int32) < n then (X1.set s1.toNatClampNeg f1) else X1)) (hs3 : s3 = (if (2 : Int32) < n then (s2 + (1 : Int32)) else s2)) (hx3 : X3 = (if (2 : Int32) < n then (X2.set s2.toNatClampNeg f2) else X2)) (hs4 : s4 = (if (3 : Int32) < n then (s3 + (1 : Int32)) else s3)) (hx4 : X4 = (if (3 : Int32) < n then (X3.set s3.toNatClampNeg f3) else X3)) (h : (3 : Int32) < n) : s4 = (4 : Int32) ∧ X4 = ((((X0.set 0 f0).set 1 f1).set 2 f2).set 3 f3) := by
  have e := own_xk3 n f0 f1 f2 s1 s2 s3 X0 X1 X2 X3 hs1 hx1 hs2 hx2 hs3 hx3 (Int32.lt_trans (by decide) h)
  rw [if_pos h, e.1] at hs4
  rw [if_pos h, e.1, e.2] at hx4
  exact ⟨hs4, hx4⟩
theorem own_xk5 (n f0 f1 f2 f3 f4 s1 s2 s3 s4 s5 : Int32) (X0 X1 X2 X3 X4 X5 : List Int32) (hs1 : s1 = (if (0 : Int32) < n then ((0 : Int32) + (1 : Int32)) else (0 : Int32))) (hx1 : X1 = (if (0 : Int32) < n then (X0.set (0 : Int32).toNatClampNeg f0) else X0)) (hs2 : s2 = (if (1 : Int32) < n then (s1 + (1 : Int32)) else s1)) (hx2 : X2 = (if (1 : Int32) < n then (X1.set s1.toNatClampNeg f1) else X1)) (hs3 : s3 = (if (2 : Int32) < n then (s2 + (1 : Int32)) else s2)) (hx3 : X3 = (if (2 : Int32) < n then (X2.set s2.toNatClampNeg f2) else X2)) (hs4 : s4 = (if (3 : Int32) < n then (s3 + (1 : Int32)) else s3)) (hx4 : X4 = (if (3 : Int32) < n then (X3.set s3.toNatClampNeg f3) else X3)) (hs5 : s5 = (if (4 : Int32) < n then (s4 + (1 : Int32)) else s4)) (hx5 : X5 = (if (4 : Int32) < n then (X4.set s4.toNatClampNeg f4) else X4)) (h : (4 : Int32) < n) : s5 = (5 : Int32) ∧ X5 = (((((X0.set 0 f0).set 1 f1).set 2 f2).set 3 f3).set 4 f4) := by
  have e := own_xk4 n f0 f1 f2 f3 s1 s2 s3 s4 X0 X1 X2 X3 X4 hs1 hx1 hs2 hx2 hs3 hx3 hs4 hx4 (Int32.lt_trans (by decide) h)
  rw [if_pos h, e.1] at hs5
  rw [if_pos h, e.1, e.2] at hx5
  exact ⟨hs5, hx5⟩
theorem own_end0 (n f0 f1 f2 f3 f4 s1 s2 s3 s4 s5 : Int32) (X0 X1 X2 X3 X4 X5 : List Int32) (hs1 : s1 = (if (0 : Int32) < n then ((0 : Int32) + (1 : Int32)) else (0 : Int32))) (hx1 : X1 = (if (0 : Int32) < n then (X0.set (0 : Int32).toNatClampNeg f0) else X0)) (hs2 : s2 = (if (1 : Int32) < n then (s1 + (1 : Int32)) else s1)) (hx2 : X2 = (if (1 : Int32) < n then (X1.set s1.toNatClampNeg f1) else X1)) (hs3 : s3 = (if (2 : Int32) < n then (s2 + (1 : Int32)) else s2)) (hx3 : X3 = (if (2 : Int32) < n then (X2.set s2.toNatClampNeg f2) else X2)) (hs4 : s4 = (if (3 : Int32) < n then (s3 + (1 : Int32)) else s3)) (hx4 : X4 = (if (3 : Int32) < n then (X3.set s3.toNatClampNeg f3) else X3)) (hs5 : s5 = (if (4 : Int32) < n then (s4 + (1 : Int32)) else s4)) (hx5 : X5 = (if (4 : Int32) < n then (X4.set s4.toNatClampNeg f4) else X4)) (h : n = 0) : s5 = (0 : Int32) ∧ X5 = X0 := by
  subst h
  rw [if_neg (by decide)] at hs1 hx1 hs2 hx2 hs3 hx3 hs4 hx4 hs5 hx5
  subst hs1 hs2 hs3 hs4 hs5 hx1 hx2 hx3 hx4 hx5
  exact ⟨rfl, rfl⟩
theorem own_end1 (n f0 f1 f2 f3 f4 s1 s2 s3 s4 s5 : Int32) (X0 X1 X2 X3 X4 X5 : List Int32) (hs1 : s1 = (if (0 : Int32) < n then ((0 : Int32) + (1 : Int32)) else (0 : Int32))) (hx1 : X1 = (if (0 : Int32) < n then (X0.set (0 : Int32).toNatClampNeg f0) else X0)) (hs2 : s2 = (if (1 : Int32) < n then (s1 + (1 : Int32)) else s1)) (hx2 : X2 = (if (1 : Int32) < n then (X1.set s1.toNatClampNeg f1) else X1)) (hs3 : s3 = (if (2 : Int32) < n then (s2 + (1 : Int32)) else s2)) (hx3 : X3 = (if (2 : Int32) < n then (X2.set s2.toNatClampNeg f2) else X2)) (hs4 : s4 = (if (3 : Int32) < n then (s3 + (1 : Int32)) else s3)) (hx4 : X4 = (if (3 : Int32) < n then (X3.set s3.toNatClampNeg f3) else X3)) (hs5 : s5 = (if (4 : Int32) < n then (s4 + (1 : Int32)) else s4)) (hx5 : X5 = (if (4 : Int32) < n then (X4.set s4.toNatClampNeg f4) else X4)) (h : n = 1) : s5 = (1 : Int32) ∧ X5 = (X0.set 0 f0) := by
  subst h
  have e := own_xk1 _ f0 s1 X0 X1 hs1 hx1 (by decide)
  rw [if_neg (by decide)] at hs2 hx2
  rw [if_neg (by decide)] at hs3 hx3
  rw [if_neg (by decide)] at hs4 hx4
  rw [if_neg (by decide)] at hs5 hx5
  exact ⟨hs5.trans (hs4.trans (hs3.trans (hs2.trans e.1))), hx5.trans (hx4.trans (hx3.trans (hx2.trans e.2)))⟩
theorem own_end2 (n f0 f1 f2 f3 f4 s1 s2 s3 s4 s5 : Int32) (X0 X1 X2 X3 X4 X5 : List Int32) (hs1 : s1 = (if (0 : Int32) < n then ((0 : Int32) + (1 : Int32)) else (0 : Int32))) (hx1 : X1 = (if (0 : Int32) < n then (X0.set (0 : Int32).toNatClampNeg f0) else X0)) (hs2 : s2 = (if (1 : Int32) < n then (s1 + (1 : Int32)) else s1)) (hx2 : X2 = (if (1 : Int32) < n then (X1.set s1.toNatClampNeg f1) else X1)) (hs3 : s3 = (if (2 : Int32) < n then (s2 + (1 : Int32)) else s2)) (hx3 : X3 = (if (2 : Int32) < n then (X2.set s2.toNatClampNeg f2) else X2)) (hs4 : s4 = (if (3 : Int32) < n then (s3 + (1 : Int32)) else s3)) (hx4 : X4 = (if (3 : Int32) < n then (X3.set s3.toNatClampNeg f3) else X3)) (hs5 : s5 = (if (4 : Int32) < n then (s4 + (1 : Int32)) else s4)) (hx5 : X5 = (if (4 : Int32) < n then (X4.set s4.toNatClampNeg f4) else X4)) (h : n = 2) : s5 = (2 : Int32) ∧ X5 = ((X0.set 0 f0).set 1 f1) := by
  subst h
  have e := own_xk2 _ f0 f1 s1 s2 X0 X1 X2 hs1 hx1 hs2 hx2 (by decide)
  rw [if_neg (by decide)] at hs3 hx3
  rw [if_neg (by decide)] at hs4 hx4
  rw [if_neg (by decide)] at hs5 hx5
  exact ⟨hs5.trans (hs4.trans (hs3.trans e.1)), hx5.trans (hx4.trans (hx3.trans e.2))⟩
theorem own_end3 (n f0 f1 f2 f3 f4 s1 s2 s3 s4 s5 : Int32) (X0 X1 X2 X3 X4 X5 : List Int32) (hs1 : s1 = (if (0 : Int32) < n then ((0 : Int32) + (1 : Int32)) else (0 : Int32))) (hx1 : X1 = (if (0 : Int32) < n then (X0.set (0 : Int32).toNatClampNeg f0) else X0)) (hs2 : s2 = (if (1 : Int32) < n then (s1 + (1 : Int32)) else s1)) (hx2 : X2 = (if (1 : Int32) < n then (X1.set s1.toNatClampNeg f1) else X1)) (hs3 : s3 = (if (2 : Int32) < n then (s2 + (1 : Int32)) else s2)) (hx3 : X3 = (if (2 : Int32) < n then (X2.set s2.toNatClampNeg f2) else X2)) (hs4 : s4 = (if (3 : Int32) < n then (s3 + (1 : Int32)) else s3)) (hx4 : X4 = (if (3 : Int32) < n then (X3.set s3.toNatClampNeg f3) else X3)) (hs5 : s5 = (if (4 : Int32) < n then (s4 + (1 : Int32)) else s4)) (hx5 : X5 = (if (4 : Int32) < n then (X4.set s4.toNatClampNeg f4) else X4)) (h : n = 3) : s5 = (3 : Int32) ∧ X5 = (((X0.set 0 f0).set 1 f1).set 2 f2) := by
  subst h
  have e := own_xk3 _ f0 f1 f2 s1 s2 s3 X0 X1 X2 X3 hs1 hx1 hs2 hx2 hs3 hx3 (by decide)
  rw [if_neg (by decide)] at hs4 hx4
  rw [if_neg (by decide)] at hs5 hx5
  exact ⟨hs5.trans (hs4.trans e.1), hx5.trans (hx4.trans e.2)⟩
theorem own_end4 (n f0 f1 f2 f3 f4 s1 s2 s3 s4 s5 : Int32) (X0 X1 X2 X3 X4 X5 : List Int32) (hs1 : s1 = (if (0 : Int32) < n then ((0 : Int32) + (1 : Int32)) else (0 : Int32))) (hx1 : X1 = (if (0 : Int32) < n then (X0.set (0 : Int32).toNatClampNeg f0) else X0)) (hs2 : s2 = (if (1 : Int32) < n then (s1 + (1 : Int32)) else s1)) (hx2 : X2 = (if (1 : Int32) < n then (X1.set s1.toNatClampNeg f1) else X1)) (hs3 : s3 = (if (2 : Int32) < n then (s2 + (1 : Int32)) else s2)) (hx3 : X3 = (if (2 : Int32) < n then (X2.set s2.toNatClampNeg f2) else X2)) (hs4 : s4 = (if (3 : Int32) < n then (s3 + (1 : Int32)) else s3)) (hx4 : X4 = (if (3 : Int32) < n then (X3.set s3.toNatClampNeg f3) else X3)) (hs5 : s5 = (if (4 : Int32) < n then (s4 + (1 : Int32)) else s4)) (hx5 : X5 = (if (4 : Int32) < n then (X4.set s4.toNatClampNeg f4) else X4)) (h : n = 4) : s5 = (4 : Int32) ∧ X5 = ((((X0.set 0 f0).set 1 f1).set 2 f2).set 3 f3) := by
  subst h
  have e := own_xk4 _ f0 f1 f2 f3 s1 s2 s3 s4 X0 X1 X2 X3 X4 hs1 hx1 hs2 hx2 hs3 hx3 hs4 hx4 (by decide)
  rw [if_neg (by decide)] at hs5 hx5
  exact ⟨hs5.trans e.1, hx5.trans e.2⟩
theorem own_end5 (n f0 f1 f2 f3 f4 s1 s2 s3 s4 s5 : Int32) (X0 X1 X2 X3 X4 X5 : List Int32) (hs1 : s1 = (if (0 : Int32) < n then ((0 : Int32) + (1 : Int32)) else (0 : Int32))) (hx1 : X1 = (if (0 : Int32) < n then (X0.set (0 : Int32).toNatClampNeg f0) else X0)) (hs2 : s2 = (if (1 : Int32) < n then (s1 + (1 : Int32)) else s1)) (hx2 : X2 = (if (1 : Int32) < n then (X1.set s1.toNatClampNeg f1) else X1)) (hs3 : s3 = (if (2 : Int32) < n then (s2 + (1 : Int32)) else s2)) (hx3 : X3 = (if (2 : Int32) < n then (X2.set s2.toNatClampNeg f2) else X2)) (hs4 : s4 = (if (3 : Int32) < n then (s3 + (1 : Int32)) else s3)) (hx4 : X4 = (if (3 : Int32) < n then (X3.set s3.toNatClampNeg f3) else X3)) (hs5 : s5 = (if (4 : Int32) < n then (s4 + (1 : Int32)) else s4)) (hx5 : X5 = (if (4 : Int32) < n then (X4.set s4.toNatClampNeg f4) else X4)) (h : n = 5) : s5 = (5 : Int32) ∧ X5 = (((((X0.set 0 f0).set 1 f1).set 2 f2).set 3 f3).set 4 f4) := by
  subst h
  have e := own_xk5 _ f0 f1 f2 f3 f4 s1 s2 s3 s4 s5 X0 X1 X2 X3 X4 X5 hs1 hx1 hs2 hx2 hs3 hx3 hs4 hx4 hs5 hx5 (by decide)
  exact ⟨e.1, e.2⟩
theorem d6_0 : decode prog_6_method_3_code 0 = .ok (.aload_n 0, 1) := by decide +kernel
theorem d6_1 : decode prog_6_method_3_code 1 = .ok (.getfield 32, 3) := by decide +kernel
theorem d6_4 : decode prog_6_method_3_code 4 = .ok (.ifCond .le 43, 3) := by decide +kernel
theorem d6_7 : decode prog_6_method_3_code 7 = .ok (.iload_n 1, 1) := by decide +kernel
theorem d6_8 : decode prog_6_method_3_code 8 = .ok (.aload_n 0, 1) := by decide +kernel
theorem d6_9 : decode prog_6_method_3_code 9 = .ok (.getfield 7, 3) := by decide +kernel
theorem d6_12 : decode prog_6_method_3_code 12 = .ok (.aload_n 0, 1) := by decide +kernel
theorem d6_13 : decode prog_6_method_3_code 13 = .ok (.getfield 32, 3) := by decide +kernel
theorem d6_16 : decode prog_6_method_3_code 16 = .ok (.iconst 1, 1) := by decide +kernel
theorem d6_17 : decode prog_6_method_3_code 17 = .ok (.isub, 1) := by decide +kernel
theorem d6_18 : decode prog_6_method_3_code 18 = .ok (.iaload, 1) := by decide +kernel
theorem d6_19 : decode prog_6_method_3_code 19 = .ok (.if_icmp .ge 28, 3) := by decide +kernel
theorem d6_47 : decode prog_6_method_3_code 47 = .ok (.aload_n 0, 1) := by decide +kernel
theorem d6_48 : decode prog_6_method_3_code 48 = .ok (.getfield 32, 3) := by decide +kernel
theorem d6_51 : decode prog_6_method_3_code 51 = .ok (.aload_n 0, 1) := by decide +kernel
theorem d6_52 : decode prog_6_method_3_code 52 = .ok (.getfield 7, 3) := by decide +kernel
theorem d6_55 : decode prog_6_method_3_code 55 = .ok (.arraylength, 1) := by decide +kernel
theorem d6_56 : decode prog_6_method_3_code 56 = .ok (.if_icmp .ne 54, 3) := by decide +kernel
theorem d6_110 : decode prog_6_method_3_code 110 = .ok (.aload_n 0, 1) := by decide +kernel
theorem d6_111 : decode prog_6_method_3_code 111 = .ok (.getfield 7, 3) := by decide +kernel
theorem d6_114 : decode prog_6_method_3_code 114 = .ok (.aload_n 0, 1) := by decide +kernel
theorem d6_115 : decode prog_6_method_3_code 115 = .ok (.getfield 32, 3) := by decide +kernel
theorem d6_118 : decode prog_6_method_3_code 118 = .ok (.iload_n 1, 1) := by decide +kernel
theorem d6_119 : decode prog_6_method_3_code 119 = .ok (.iastore, 1) := by decide +kernel
theorem d6_120 : decode prog_6_method_3_code 120 = .ok (.aload_n 0, 1) := by decide +kernel
theorem d6_121 : decode prog_6_method_3_code 121 = .ok (.getfield 13, 3) := by decide +kernel
theorem d6_124 : decode prog_6_method_3_code 124 = .ok (.aload_n 0, 1) := by decide +kernel
theorem d6_125 : decode prog_6_method_3_code 125 = .ok (.getfield 32, 3) := by decide +kernel
theorem d6_128 : decode prog_6_method_3_code 128 = .ok (.iload_n 2, 1) := by decide +kernel
theorem d6_129 : decode prog_6_method_3_code 129 = .ok (.iastore, 1) := by decide +kernel
theorem d6_130 : decode prog_6_method_3_code 130 = .ok (.aload_n 0, 1) := by decide +kernel
theorem d6_131 : decode prog_6_method_3_code 131 = .ok (.getfield 16, 3) := by decide +kernel
theorem d6_134 : decode prog_6_method_3_code 134 = .ok (.aload_n 0, 1) := by decide +kernel
theorem d6_135 : decode prog_6_method_3_code 135 = .ok (.getfield 32, 3) := by decide +kernel
theorem d6_138 : decode prog_6_method_3_code 138 = .ok (.iload_n 3, 1) := by decide +kernel
theorem d6_139 : decode prog_6_method_3_code 139 = .ok (.iastore, 1) := by decide +kernel
theorem d6_140 : decode prog_6_method_3_code 140 = .ok (.aload_n 0, 1) := by decide +kernel
theorem d6_141 : decode prog_6_method_3_code 141 = .ok (.dup, 1) := by decide +kernel
theorem d6_142 : decode prog_6_method_3_code 142 = .ok (.getfield 32, 3) := by decide +kernel
theorem d6_145 : decode prog_6_method_3_code 145 = .ok (.iconst 1, 1) := by decide +kernel
theorem d6_146 : decode prog_6_method_3_code 146 = .ok (.iadd, 1) := by decide +kernel
theorem d6_147 : decode prog_6_method_3_code 147 = .ok (.putfield 32, 3) := by decide +kernel
theorem d6_150 : decode prog_6_method_3_code 150 = .ok (.return_, 1) := by decide +kernel
set_option maxRecDepth 65536 in
set_option maxHeartbeats 40000000 in
theorem rm6 (l : Launch) (Z : State) (a0 : Array Value) (hw : ∀ d ∈ tables_1, d.before a0 Z = true) (ws : List Jvm.Cond) (o0 : Addr) (p1 : Int32) (p2 : Int32) (p3 : Int32) (x y z : Addr) (s0 : Int32) (xs ys zs : List Int32) (h0 : Heap) (n0 : Nat) (Z0 : n0 ≤ h0.size) (K0 : Exa Z h0 o0 "com/example/urd/urd/causes/Edges") (F0_0 : Fld Z h0 o0 "com/example/urd/urd/causes/Edges" "from" "[I" (.ref x)) (F0_1 : Fld Z h0 o0 "com/example/urd/urd/causes/Edges" "event" "[I" (.ref y)) (F0_2 : Fld Z h0 o0 "com/example/urd/urd/causes/Edges" "to" "[I" (.ref z)) (F0_3 : Fld Z h0 o0 "com/example/urd/urd/causes/Edges" "size" "I" (.int s0)) (A_x : own_A Z h0 x .int (64 : Int32) xs) (A_y : own_A Z h0 y .int (64 : Int32) ys) (A_z : own_A Z h0 z .int (64 : Int32) zs) (g_o0 : n0 ≤ o0) (g_x : n0 ≤ x) (g_y : n0 ≤ y) (g_z : n0 ≤ z) (ne_o0_x : o0 ≠ x) (ne_o0_y : o0 ≠ y) (ne_o0_z : o0 ≠ z) (ne_x_y : x ≠ y) (ne_x_z : x ≠ z) (ne_y_z : y ≠ z) (hs : ¬ s0 < 0 ∧ s0 < (64 : Int32)) (hle : (0 : Int32) < s0 → ¬ p1 < xs.getD (s0 - (1 : Int32)).toNatClampNeg 0) :
    MetFree l (⟨"com/example/urd/urd/causes/Edges", "add", "(III)V"⟩ : MethodName) (head1 (Jvm.Cond.code (⟨"com/example/urd/urd/causes/Edges", "add", "(III)V"⟩ : MethodName) prog_6_method_3_code 4 none :: ws) own_R6) (fun a U => a = #[(.ref o0), (.int p1), (.int p2), (.int p3)] ∧ Z.Warmed39 U.vm ∧ U.heap = h0) (fun _ _ _ _ _ => True) (fun _ U o U' => ∃ v L, o = .returned v ∧ Q6 Z o0 p1 p2 p3 x y z s0 xs ys zs h0 n0 v U'.heap L ∧ FrameEnd U o U' L own_R6.cells own_R6.slots) := by
  refine MetFree.of_bodySF (plainFor_of_name own_pn6) hisR ?_
  intro p e s m args below meth c s₁ Bd hml0 hP hK
  obtain ⟨ha, hZ, hh⟩ := hP
  have hx := Bd.exec
  have hby := Bd.bytes
  have hml : c.maxLocals = 4 := hml0
  have hown : s.vm.findClass "com/example/urd/urd/causes/Edges" = some m.cls := findClass_of_methodNamed Bd.named
  have hnm := (name_of_methodNamed Bd.named Bd.method).1
  have X0 : Stand p l e own_R6 s m args below meth c s₁ [] 0 0 := Stand.of_body Bd
  have e0 : s₁.heap = h0 := by rw [← hh, Bd.state]; rfl
  have N0 := Fr.nil n0
  refine own_enter (Q := (Q6 Z o0 p1 p2 p3 x y z s0 xs ys zs h0 n0)) (g := mkF m 0 #[.val (.ref o0), .val (.int p1), .val (.int p2), .val (.int p3)] []) (by rw [ha]; exact own_ef6 m o0 p1 p2 p3) ?_
  refine own_run (g' := (mkF m 1 #[.val (.ref o0), .val (.int p1), .val (.int p2), .val (.int p3)] [(.ref o0)])) (fun _ kt => XS.aloadN X0.here hx rfl (hb hby d6_0) rfl rfl (kt)) ?_
  refine own_getF X0 hx hZ hown (host := "") (Or.inl (hw _ (List.mem_of_getElem? (i := 31) rfl))) Via.refl e0 F0_3 (hb hby d6_1) ?_
  intro T1 X1 e1
  by_cases hc4 : (0 : Int32) < s0
  · refine own_run (g' := (mkF m 9 #[.val (.ref o0), .val (.int p1), .val (.int p2), .val (.int p3)] [(.ref o0), (.int p1)])) (fun _ kt => XS.ifNo X1.here hx rfl (hb hby d6_4) rfl ((if0 _ _).trans (tlt hc4).2.2.2) (XS.iloadN X1.here hx rfl (hb hby d6_7) rfl (XS.aloadN X1.here hx rfl (hb hby d6_8) rfl rfl (kt)))) ?_
    refine own_getF X1 hx hZ hown (host := "") (Or.inl (hw _ (List.mem_of_getElem? (i := 17) rfl))) Via.refl e1 F0_0 (hb hby d6_9) ?_
    intro T2 X2 e2
    refine own_run (g' := (mkF m 13 #[.val (.ref o0), .val (.int p1), .val (.int p2), .val (.int p3)] [(.ref o0), (.ref x), (.int p1)])) (fun _ kt => XS.aloadN X2.here hx rfl (hb hby d6_12) rfl rfl (kt)) ?_
    refine own_getF X2 hx hZ hown (host := "") (Or.inl (hw _ (List.mem_of_getElem? (i := 31) rfl))) Via.refl e2 F0_3 (hb hby d6_13) ?_
    intro T3 X3 e3
    refine own_run (g' := (mkF m 18 #[.val (.ref o0), .val (.int p1), .val (.int p2), .val (.int p3)] [(.int (s0 - (1 : Int32))), (.ref x), (.int p1)])) (fun _ kt => XS.iconst X3.here hx rfl (hb hby d6_16) (XS.isub X3.here hx rfl (hb hby d6_17) rfl (kt))) ?_
    refine own_ldI X3 hx hZ e3 A_x (j := (s0 - (1 : Int32))) (own_prev hs hc4) (hb hby d6_18) (x := (xs.getD (s0 - (1 : Int32)).toNatClampNeg 0)) rfl ?_
    have hd19 : ¬ (p1 < (xs.getD (s0 - (1 : Int32)).toNatClampNeg 0)) := hle hc4
    refine own_run (g' := (mkF m 48 #[.val (.ref o0), .val (.int p1), .val (.int p2), .val (.int p3)] [(.ref o0)])) (fun _ kt => XS.icmpYes X3.here hx rfl (pc0 := 19) (pc' := 47) rfl (hb hby d6_19) rfl ((flt hd19).2.1) (by decide) (by decide) (XS.aloadN X3.here hx rfl (hb hby d6_47) rfl rfl (kt))) ?_
    refine own_getF X3 hx hZ hown (host := "") (Or.inl (hw _ (List.mem_of_getElem? (i := 31) rfl))) Via.refl e3 F0_3 (hb hby d6_48) ?_
    intro T4 X4 e4
    refine own_run (g' := (mkF m 52 #[.val (.ref o0), .val (.int p1), .val (.int p2), .val (.int p3)] [(.ref o0), (.int s0)])) (fun _ kt => XS.aloadN X4.here hx rfl (hb hby d6_51) rfl rfl (kt)) ?_
    refine own_getF X4 hx hZ hown (host := "") (Or.inl (hw _ (List.mem_of_getElem? (i := 17) rfl))) Via.refl e4 F0_0 (hb hby d6_52) ?_
    intro T5 X5 e5
    refine own_len X5 hx hZ e5 A_x (hb hby d6_55) ?_
    have hd56 : ¬ (s0 = (64 : Int32)) := fun q => Int32.lt_irrefl (q ▸ hs.2)
    refine own_run (g' := (mkF m 111 #[.val (.ref o0), .val (.int p1), .val (.int p2), .val (.int p3)] [(.ref o0)])) (fun _ kt => XS.icmpYes X5.here hx rfl (pc0 := 56) (pc' := 110) rfl (hb hby d6_56) rfl ((feq hd56).2) (by decide) (by decide) (XS.aloadN X5.here hx rfl (hb hby d6_110) rfl rfl (kt))) ?_
    refine own_getF X5 hx hZ hown (host := "") (Or.inl (hw _ (List.mem_of_getElem? (i := 17) rfl))) Via.refl e5 F0_0 (hb hby d6_111) ?_
    intro T6 X6 e6
    refine own_run (g' := (mkF m 115 #[.val (.ref o0), .val (.int p1), .val (.int p2), .val (.int p3)] [(.ref o0), (.ref x)])) (fun _ kt => XS.aloadN X6.here hx rfl (hb hby d6_114) rfl rfl (kt)) ?_
    refine own_getF X6 hx hZ hown (host := "") (Or.inl (hw _ (List.mem_of_getElem? (i := 31) rfl))) Via.refl e6 F0_3 (hb hby d6_115) ?_
    intro T7 X7 e7
    refine own_run (g' := (mkF m 119 #[.val (.ref o0), .val (.int p1), .val (.int p2), .val (.int p3)] [(.int p1), (.int s0), (.ref x)])) (fun _ kt => XS.iloadN X7.here hx rfl (hb hby d6_118) rfl (kt)) ?_
    refine own_stI X7 hx hZ e7 A_x (j := s0) hs N0 g_x (hb hby d6_119) (ys := (xs.set s0.toNatClampNeg p1)) rfl ?_
    intro T8 h8 L8 X8 N8 e8 W8 A8
    replace K0 := K0.wr W8
    replace F0_0 := F0_0.other W8 (Or.inl ne_o0_x)
    replace F0_1 := F0_1.other W8 (Or.inl ne_o0_x)
    replace F0_2 := F0_2.other W8 (Or.inl ne_o0_x)
    replace F0_3 := F0_3.other W8 (Or.inl ne_o0_x)
    replace A_y := A_y.other W8 (Ne.symm ne_x_y)
    replace A_z := A_z.other W8 (Ne.symm ne_x_z)
    have KpW8 : Keep h0 h8 [o0, x, y, z] := Keep.wr (Keep.refl h0 [o0, x, y, z]) W8 (Or.inl (List.mem_of_getElem? (i := 1) rfl))
    have ZW8 : n0 ≤ h8.size := Nat.le_trans Z0 (Keep.of_wr W8).1
    refine own_run (g' := (mkF m 121 #[.val (.ref o0), .val (.int p1), .val (.int p2), .val (.int p3)] [(.ref o0)])) (fun _ kt => XS.aloadN X8.here hx rfl (hb hby d6_120) rfl rfl (kt)) ?_
    refine own_getF X8 hx hZ hown (host := "") (Or.inl (hw _ (List.mem_of_getElem? (i := 19) rfl))) Via.refl e8 F0_1 (hb hby d6_121) ?_
    intro T9 X9 e9
    refine own_run (g' := (mkF m 125 #[.val (.ref o0), .val (.int p1), .val (.int p2), .val (.int p3)] [(.ref o0), (.ref y)])) (fun _ kt => XS.aloadN X9.here hx rfl (hb hby d6_124) rfl rfl (kt)) ?_
    refine own_getF X9 hx hZ hown (host := "") (Or.inl (hw _ (List.mem_of_getElem? (i := 31) rfl))) Via.refl e9 F0_3 (hb hby d6_125) ?_
    intro T10 X10 e10
    refine own_run (g' := (mkF m 129 #[.val (.ref o0), .val (.int p1), .val (.int p2), .val (.int p3)] [(.int p2), (.int s0), (.ref y)])) (fun _ kt => XS.iloadN X10.here hx rfl (hb hby d6_128) rfl (kt)) ?_
    refine own_stI X10 hx hZ e10 A_y (j := s0) hs N8 g_y (hb hby d6_129) (ys := (ys.set s0.toNatClampNeg p2)) rfl ?_
    intro T11 h11 L11 X11 N11 e11 W11 A11
    replace K0 := K0.wr W11
    replace F0_0 := F0_0.other W11 (Or.inl ne_o0_y)
    replace F0_1 := F0_1.other W11 (Or.inl ne_o0_y)
    replace F0_2 := F0_2.other W11 (Or.inl ne_o0_y)
    replace F0_3 := F0_3.other W11 (Or.inl ne_o0_y)
    replace A8 := A8.other W11 ne_x_y
    replace A_z := A_z.other W11 (Ne.symm ne_y_z)
    have KpW11 : Keep h0 h11 [o0, x, y, z] := Keep.wr KpW8 W11 (Or.inl (List.mem_of_getElem? (i := 2) rfl))
    have ZW11 : n0 ≤ h11.size := Nat.le_trans ZW8 (Keep.of_wr W11).1
    refine own_run (g' := (mkF m 131 #[.val (.ref o0), .val (.int p1), .val (.int p2), .val (.int p3)] [(.ref o0)])) (fun _ kt => XS.aloadN X11.here hx rfl (hb hby d6_130) rfl rfl (kt)) ?_
    refine own_getF X11 hx hZ hown (host := "") (Or.inl (hw _ (List.mem_of_getElem? (i := 21) rfl))) Via.refl e11 F0_2 (hb hby d6_131) ?_
    intro T12 X12 e12
    refine own_run (g' := (mkF m 135 #[.val (.ref o0), .val (.int p1), .val (.int p2), .val (.int p3)] [(.ref o0), (.ref z)])) (fun _ kt => XS.aloadN X12.here hx rfl (hb hby d6_134) rfl rfl (kt)) ?_
    refine own_getF X12 hx hZ hown (host := "") (Or.inl (hw _ (List.mem_of_getElem? (i := 31) rfl))) Via.refl e12 F0_3 (hb hby d6_135) ?_
    intro T13 X13 e13
    refine own_run (g' := (mkF m 139 #[.val (.ref o0), .val (.int p1), .val (.int p2), .val (.int p3)] [(.int p3), (.int s0), (.ref z)])) (fun _ kt => XS.iloadN X13.here hx rfl (hb hby d6_138) rfl (kt)) ?_
    refine own_stI X13 hx hZ e13 A_z (j := s0) hs N11 g_z (hb hby d6_139) (ys := (zs.set s0.toNatClampNeg p3)) rfl ?_
    intro T14 h14 L14 X14 N14 e14 W14 A14
    replace K0 := K0.wr W14
    replace F0_0 := F0_0.other W14 (Or.inl ne_o0_z)
    replace F0_1 := F0_1.other W14 (Or.inl ne_o0_z)
    replace F0_2 := F0_2.other W14 (Or.inl ne_o0_z)
    replace F0_3 := F0_3.other W14 (Or.inl ne_o0_z)
    replace A8 := A8.other W14 ne_x_z
    replace A11 := A11.other W14 ne_y_z
    have KpW14 : Keep h0 h14 [o0, x, y, z] := Keep.wr KpW11 W14 (Or.inl (List.mem_of_getElem? (i := 3) rfl))
    have ZW14 : n0 ≤ h14.size := Nat.le_trans ZW11 (Keep.of_wr W14).1
    refine own_run (g' := (mkF m 142 #[.val (.ref o0), .val (.int p1), .val (.int p2), .val (.int p3)] [(.ref o0), (.ref o0)])) (fun _ kt => XS.aloadN X14.here hx rfl (hb hby d6_140) rfl rfl (XS.dup X14.here hx rfl (hb hby d6_141) rfl rfl (kt))) ?_
    refine own_getF X14 hx hZ hown (host := "") (Or.inl (hw _ (List.mem_of_getElem? (i := 31) rfl))) Via.refl e14 F0_3 (hb hby d6_142) ?_
    intro T15 X15 e15
    refine own_run (g' := (mkF m 147 #[.val (.ref o0), .val (.int p1), .val (.int p2), .val (.int p3)] [(.int (s0 + (1 : Int32))), (.ref o0)])) (fun _ kt => XS.iconst X15.here hx rfl (hb hby d6_145) (XS.iadd X15.here hx rfl (hb hby d6_146) rfl (kt))) ?_
    refine own_putF X15 hx hZ hown (host := "") (Or.inl (hw _ (List.mem_of_getElem? (i := 31) rfl))) Via.refl e15 F0_3 K0 (Or.inl (hw _ (List.mem_of_getElem? (i := 32) rfl))) (hw _ (List.mem_of_getElem? (i := 8) rfl)) (ty := .int) (by decide) rfl rfl N14 g_o0 (hb hby d6_147) ?_
    intro T16 h16 L16 X16 N16 e16 W16 F16
    replace K0 := K0.wr W16
    replace F0_0 := F0_0.other W16 (Or.inr (slot_ne (Or.inl (hw _ (List.mem_of_getElem? (i := 18) rfl))) (Or.inl (hw _ (List.mem_of_getElem? (i := 32) rfl))) (by decide) (t := (.array .int)) (t' := .int) (by decide) (by decide)))
    replace F0_1 := F0_1.other W16 (Or.inr (slot_ne (Or.inl (hw _ (List.mem_of_getElem? (i := 20) rfl))) (Or.inl (hw _ (List.mem_of_getElem? (i := 32) rfl))) (by decide) (t := (.array .int)) (t' := .int) (by decide) (by decide)))
    replace F0_2 := F0_2.other W16 (Or.inr (slot_ne (Or.inl (hw _ (List.mem_of_getElem? (i := 22) rfl))) (Or.inl (hw _ (List.mem_of_getElem? (i := 32) rfl))) (by decide) (t := (.array .int)) (t' := .int) (by decide) (by decide)))
    replace A8 := A8.other W16 (Ne.symm ne_o0_x)
    replace A11 := A11.other W16 (Ne.symm ne_o0_y)
    replace A14 := A14.other W16 (Ne.symm ne_o0_z)
    have KpW16 : Keep h0 h16 [o0, x, y, z] := Keep.wr KpW14 W16 (Or.inl (List.mem_of_getElem? (i := 0) rfl))
    have ZW16 : n0 ≤ h16.size := Nat.le_trans ZW14 (Keep.of_wr W16).1
    exact own_retV X16 hx Bd.notSynchronized Bd.returns (hb hby d6_150) (by decide) (by decide) (by rw [e16]; exact ⟨rfl, N16, KpW16, F0_0, F0_1, F0_2, F16, A8, A11, A14⟩)
  · refine own_run (g' := (mkF m 48 #[.val (.ref o0), .val (.int p1), .val (.int p2), .val (.int p3)] [(.ref o0)])) (fun _ kt => XS.ifYes X1.here hx rfl (pc0 := 4) (pc' := 47) rfl (hb hby d6_4) rfl ((if0 _ _).trans (flt hc4).2.2.2) (by decide) (by decide) (XS.aloadN X1.here hx rfl (hb hby d6_47) rfl rfl (kt))) ?_
    refine own_getF X1 hx hZ hown (host := "") (Or.inl (hw _ (List.mem_of_getElem? (i := 31) rfl))) Via.refl e1 F0_3 (hb hby d6_48) ?_
    intro T17 X17 e17
    refine own_run (g' := (mkF m 52 #[.val (.ref o0), .val (.int p1), .val (.int p2), .val (.int p3)] [(.ref o0), (.int s0)])) (fun _ kt => XS.aloadN X17.here hx rfl (hb hby d6_51) rfl rfl (kt)) ?_
    refine own_getF X17 hx hZ hown (host := "") (Or.inl (hw _ (List.mem_of_getElem? (i := 17) rfl))) Via.refl e17 F0_0 (hb hby d6_52) ?_
    intro T18 X18 e18
    refine own_len X18 hx hZ e18 A_x (hb hby d6_55) ?_
    have hd56 : ¬ (s0 = (64 : Int32)) := fun q => Int32.lt_irrefl (q ▸ hs.2)
    refine own_run (g' := (mkF m 111 #[.val (.ref o0), .val (.int p1), .val (.int p2), .val (.int p3)] [(.ref o0)])) (fun _ kt => XS.icmpYes X18.here hx rfl (pc0 := 56) (pc' := 110) rfl (hb hby d6_56) rfl ((feq hd56).2) (by decide) (by decide) (XS.aloadN X18.here hx rfl (hb hby d6_110) rfl rfl (kt))) ?_
    refine own_getF X18 hx hZ hown (host := "") (Or.inl (hw _ (List.mem_of_getElem? (i := 17) rfl))) Via.refl e18 F0_0 (hb hby d6_111) ?_
    intro T19 X19 e19
    refine own_run (g' := (mkF m 115 #[.val (.ref o0), .val (.int p1), .val (.int p2), .val (.int p3)] [(.ref o0), (.ref x)])) (fun _ kt => XS.aloadN X19.here hx rfl (hb hby d6_114) rfl rfl (kt)) ?_
    refine own_getF X19 hx hZ hown (host := "") (Or.inl (hw _ (List.mem_of_getElem? (i := 31) rfl))) Via.refl e19 F0_3 (hb hby d6_115) ?_
    intro T20 X20 e20
    refine own_run (g' := (mkF m 119 #[.val (.ref o0), .val (.int p1), .val (.int p2), .val (.int p3)] [(.int p1), (.int s0), (.ref x)])) (fun _ kt => XS.iloadN X20.here hx rfl (hb hby d6_118) rfl (kt)) ?_
    refine own_stI X20 hx hZ e20 A_x (j := s0) hs N0 g_x (hb hby d6_119) (ys := (xs.set s0.toNatClampNeg p1)) rfl ?_
    intro T21 h21 L21 X21 N21 e21 W21 A21
    replace K0 := K0.wr W21
    replace F0_0 := F0_0.other W21 (Or.inl ne_o0_x)
    replace F0_1 := F0_1.other W21 (Or.inl ne_o0_x)
    replace F0_2 := F0_2.other W21 (Or.inl ne_o0_x)
    replace F0_3 := F0_3.other W21 (Or.inl ne_o0_x)
    replace A_y := A_y.other W21 (Ne.symm ne_x_y)
    replace A_z := A_z.other W21 (Ne.symm ne_x_z)
    have KpW21 : Keep h0 h21 [o0, x, y, z] := Keep.wr (Keep.refl h0 [o0, x, y, z]) W21 (Or.inl (List.mem_of_getElem? (i := 1) rfl))
    have ZW21 : n0 ≤ h21.size := Nat.le_trans Z0 (Keep.of_wr W21).1
    refine own_run (g' := (mkF m 121 #[.val (.ref o0), .val (.int p1), .val (.int p2), .val (.int p3)] [(.ref o0)])) (fun _ kt => XS.aloadN X21.here hx rfl (hb hby d6_120) rfl rfl (kt)) ?_
    refine own_getF X21 hx hZ hown (host := "") (Or.inl (hw _ (List.mem_of_getElem? (i := 19) rfl))) Via.refl e21 F0_1 (hb hby d6_121) ?_
    intro T22 X22 e22
    refine own_run (g' := (mkF m 125 #[.val (.ref o0), .val (.int p1), .val (.int p2), .val (.int p3)] [(.ref o0), (.ref y)])) (fun _ kt => XS.aloadN X22.here hx rfl (hb hby d6_124) rfl rfl (kt)) ?_
    refine own_getF X22 hx hZ hown (host := "") (Or.inl (hw _ (List.mem_of_getElem? (i := 31) rfl))) Via.refl e22 F0_3 (hb hby d6_125) ?_
    intro T23 X23 e23
    refine own_run (g' := (mkF m 129 #[.val (.ref o0), .val (.int p1), .val (.int p2), .val (.int p3)] [(.int p2), (.int s0), (.ref y)])) (fun _ kt => XS.iloadN X23.here hx rfl (hb hby d6_128) rfl (kt)) ?_
    refine own_stI X23 hx hZ e23 A_y (j := s0) hs N21 g_y (hb hby d6_129) (ys := (ys.set s0.toNatClampNeg p2)) rfl ?_
    intro T24 h24 L24 X24 N24 e24 W24 A24
    replace K0 := K0.wr W24
    replace F0_0 := F0_0.other W24 (Or.inl ne_o0_y)
    replace F0_1 := F0_1.other W24 (Or.inl ne_o0_y)
    replace F0_2 := F0_2.other W24 (Or.inl ne_o0_y)
    replace F0_3 := F0_3.other W24 (Or.inl ne_o0_y)
    replace A21 := A21.other W24 ne_x_y
    replace A_z := A_z.other W24 (Ne.symm ne_y_z)
    have KpW24 : Keep h0 h24 [o0, x, y, z] := Keep.wr KpW21 W24 (Or.inl (List.mem_of_getElem? (i := 2) rfl))
    have ZW24 : n0 ≤ h24.size := Nat.le_trans ZW21 (Keep.of_wr W24).1
    refine own_run (g' := (mkF m 131 #[.val (.ref o0), .val (.int p1), .val (.int p2), .val (.int p3)] [(.ref o0)])) (fun _ kt => XS.aloadN X24.here hx rfl (hb hby d6_130) rfl rfl (kt)) ?_
    refine own_getF X24 hx hZ hown (host := "") (Or.inl (hw _ (List.mem_of_getElem? (i := 21) rfl))) Via.refl e24 F0_2 (hb hby d6_131) ?_
    intro T25 X25 e25
    refine own_run (g' := (mkF m 135 #[.val (.ref o0), .val (.int p1), .val (.int p2), .val (.int p3)] [(.ref o0), (.ref z)])) (fun _ kt => XS.aloadN X25.here hx rfl (hb hby d6_134) rfl rfl (kt)) ?_
    refine own_getF X25 hx hZ hown (host := "") (Or.inl (hw _ (List.mem_of_getElem? (i := 31) rfl))) Via.refl e25 F0_3 (hb hby d6_135) ?_
    intro T26 X26 e26
    refine own_run (g' := (mkF m 139 #[.val (.ref o0), .val (.int p1), .val (.int p2), .val (.int p3)] [(.int p3), (.int s0), (.ref z)])) (fun _ kt => XS.iloadN X26.here hx rfl (hb hby d6_138) rfl (kt)) ?_
    refine own_stI X26 hx hZ e26 A_z (j := s0) hs N24 g_z (hb hby d6_139) (ys := (zs.set s0.toNatClampNeg p3)) rfl ?_
    intro T27 h27 L27 X27 N27 e27 W27 A27
    replace K0 := K0.wr W27
    replace F0_0 := F0_0.other W27 (Or.inl ne_o0_z)
    replace F0_1 := F0_1.other W27 (Or.inl ne_o0_z)
    replace F0_2 := F0_2.other W27 (Or.inl ne_o0_z)
    replace F0_3 := F0_3.other W27 (Or.inl ne_o0_z)
    replace A21 := A21.other W27 ne_x_z
    replace A24 := A24.other W27 ne_y_z
    have KpW27 : Keep h0 h27 [o0, x, y, z] := Keep.wr KpW24 W27 (Or.inl (List.mem_of_getElem? (i := 3) rfl))
    have ZW27 : n0 ≤ h27.size := Nat.le_trans ZW24 (Keep.of_wr W27).1
    refine own_run (g' := (mkF m 142 #[.val (.ref o0), .val (.int p1), .val (.int p2), .val (.int p3)] [(.ref o0), (.ref o0)])) (fun _ kt => XS.aloadN X27.here hx rfl (hb hby d6_140) rfl rfl (XS.dup X27.here hx rfl (hb hby d6_141) rfl rfl (kt))) ?_
    refine own_getF X27 hx hZ hown (host := "") (Or.inl (hw _ (List.mem_of_getElem? (i := 31) rfl))) Via.refl e27 F0_3 (hb hby d6_142) ?_
    intro T28 X28 e28
    refine own_run (g' := (mkF m 147 #[.val (.ref o0), .val (.int p1), .val (.int p2), .val (.int p3)] [(.int (s0 + (1 : Int32))), (.ref o0)])) (fun _ kt => XS.iconst X28.here hx rfl (hb hby d6_145) (XS.iadd X28.here hx rfl (hb hby d6_146) rfl (kt))) ?_
    refine own_putF X28 hx hZ hown (host := "") (Or.inl (hw _ (List.mem_of_getElem? (i := 31) rfl))) Via.refl e28 F0_3 K0 (Or.inl (hw _ (List.mem_of_getElem? (i := 32) rfl))) (hw _ (List.mem_of_getElem? (i := 8) rfl)) (ty := .int) (by decide) rfl rfl N27 g_o0 (hb hby d6_147) ?_
    intro T29 h29 L29 X29 N29 e29 W29 F29
    replace K0 := K0.wr W29
    replace F0_0 := F0_0.other W29 (Or.inr (slot_ne (Or.inl (hw _ (List.mem_of_getElem? (i := 18) rfl))) (Or.inl (hw _ (List.mem_of_getElem? (i := 32) rfl))) (by decide) (t := (.array .int)) (t' := .int) (by decide) (by decide)))
    replace F0_1 := F0_1.other W29 (Or.inr (slot_ne (Or.inl (hw _ (List.mem_of_getElem? (i := 20) rfl))) (Or.inl (hw _ (List.mem_of_getElem? (i := 32) rfl))) (by decide) (t := (.array .int)) (t' := .int) (by decide) (by decide)))
    replace F0_2 := F0_2.other W29 (Or.inr (slot_ne (Or.inl (hw _ (List.mem_of_getElem? (i := 22) rfl))) (Or.inl (hw _ (List.mem_of_getElem? (i := 32) rfl))) (by decide) (t := (.array .int)) (t' := .int) (by decide) (by decide)))
    replace A21 := A21.other W29 (Ne.symm ne_o0_x)
    replace A24 := A24.other W29 (Ne.symm ne_o0_y)
    replace A27 := A27.other W29 (Ne.symm ne_o0_z)
    have KpW29 : Keep h0 h29 [o0, x, y, z] := Keep.wr KpW27 W29 (Or.inl (List.mem_of_getElem? (i := 0) rfl))
    have ZW29 : n0 ≤ h29.size := Nat.le_trans ZW27 (Keep.of_wr W29).1
    exact own_retV X29 hx Bd.notSynchronized Bd.returns (hb hby d6_150) (by decide) (by decide) (by rw [e29]; exact ⟨rfl, N29, KpW29, F0_0, F0_1, F0_2, F29, A21, A24, A27⟩)
theorem own_pn5 : plainName "com/example/urd/urd/causes/Edges" = true := by first | (simp [plainName, overriddenIn]; done) | decide +kernel
theorem own_ef5 (m : MethodId) (o0 : Addr) (p1 : Int32) : entryFrame m #[(.ref o0), (.int p1)] 5 = mkF m 0 #[.val (.ref o0), .val (.int p1), .unset, .unset, .unset] [] := by first | (simp [entryFrame, mkF, argsToLocals, Value.category]; done) | rfl
def own_R5 : Room := ({ frames := 0, cells := 0, slots := 0, locals := 0 } : Room)
theorem own_clamp {n : Nat} (h : n < 2147483648) : (Int32.ofNat n).toNatClampNeg = n := by
  have e1 : (Int32.ofNat n).toInt = n := len_toInt h
  simp only [Int32.toNatClampNeg, e1]; omega
theorem own_one (i : Nat) : Int32.ofNat i + (1 : Int32) = Int32.ofNat (i + 1) := (Int32.ofNat_add i 1).symm
theorem own_ofnat_lt {j : Nat} {n : Int32} (h : j < 2147483648) : Int32.ofNat j < n ↔ j < n.toNatClampNeg := by
  have e1 : (Int32.ofNat j).toInt = j := len_toInt h
  rw [Int32.lt_iff_toInt_lt, e1]; simp only [Int32.toNatClampNeg]; omega
theorem own_clamp_lt (n : Int32) : n.toNatClampNeg < 2147483648 := by
  have := n.toInt_lt; simp only [Int32.toNatClampNeg]; omega
theorem own_ofnat_nn {j : Nat} (h : j < 2147483648) : ¬ Int32.ofNat j < 0 := by
  have e1 : (Int32.ofNat j).toInt = j := len_toInt h
  rw [Int32.lt_iff_toInt_lt, e1]; simp
theorem own_back {p : Int32} (h : ¬ p < 0) : Int32.ofNat p.toNatClampNeg = p := by
  have e1 : (Int32.ofNat p.toNatClampNeg).toInt = p.toNatClampNeg := len_toInt (own_clamp_lt p)
  rw [← Int32.toInt_inj, e1]
  rw [Int32.lt_iff_toInt_lt] at h
  simp only [Int32.toNatClampNeg]; simp at h; omega
theorem own_i32 {x k : Int32} (h : x.toInt = k.toInt) : x = k := Int32.toInt_inj.mp h
theorem own_and3 (x : Int32) : (x &&& (3 : Int32)) = 0 ∨ (x &&& (3 : Int32)) = 1 ∨ (x &&& (3 : Int32)) = 2 ∨ (x &&& (3 : Int32)) = 3 := by
  have e := Jvm.Kit.i32_mask x 3 (k := 2) (by decide) (by decide)
  have hb : x.toInt % 2 ^ 2 = 0 ∨ x.toInt % 2 ^ 2 = 1 ∨ x.toInt % 2 ^ 2 = 2 ∨ x.toInt % 2 ^ 2 = 3 := by omega
  rcases hb with h | h | h | h
  · exact Or.inl (own_i32 (k := 0) (e.trans h))
  · exact Or.inr (Or.inl (own_i32 (k := 1) (e.trans h)))
  · exact Or.inr (Or.inr (Or.inl (own_i32 (k := 2) (e.trans h))))
  · exact Or.inr (Or.inr (Or.inr (own_i32 (k := 3) (e.trans h))))

def own_lb (xs : List Int32) (s q : Int32) (r : Nat) : Prop := r ≤ s.toNatClampNeg ∧ (∀ i, i < r → xs.getD i 0 < q) ∧ ∀ i, r ≤ i → i < s.toNatClampNeg → ¬ xs.getD i 0 < q
def own_sorted (xs : List Int32) (s : Int32) : Prop := ∀ i j, i ≤ j → j < s.toNatClampNeg → ¬ xs.getD j 0 < xs.getD i 0
def Q5 (xs : List Int32) (s q : Int32) (h0 : Heap) (n0 : Nat) (v : Option Value) (h : Heap) (L : List Loc) : Prop := ∃ r : Nat, v = some (.int (Int32.ofNat r)) ∧ Fr n0 L ∧ h = h0 ∧ own_lb xs s q r
theorem own_mid {a b : Nat} (ha : a < 2147483648) (hb : b < 2147483648) : XT.ushr (Int32.ofNat a + Int32.ofNat b) (1 : Int32) = Int32.ofNat ((a + b) / 2) := Jvm.Kit.i32_mid ha hb
theorem own_up {xs : List Int32} {s q : Int32} (hso : own_sorted xs s) {m i : Nat} (hm : m < s.toNatClampNeg) (h : xs.getD m 0 < q) (hi : i < m + 1) : xs.getD i 0 < q :=
  Int32.lt_of_le_of_lt (Int32.not_lt.mp (hso i m (by omega) hm)) h
theorem own_down {xs : List Int32} {s q : Int32} (hso : own_sorted xs s) {m i : Nat} (h : ¬ xs.getD m 0 < q) (hi : m ≤ i) (his : i < s.toNatClampNeg) : ¬ xs.getD i 0 < q :=
  fun z => h (Int32.lt_of_le_of_lt (Int32.not_lt.mp (hso m i hi his)) z)
theorem own_le64 {s : Int32} (h : ¬ s < 0 ∧ s < (64 : Int32)) : s.toNatClampNeg ≤ 64 := by
  have := own_lt_clamp h
  exact Nat.le_of_lt (Nat.lt_of_lt_of_eq this rfl)
theorem d5_0 : decode prog_6_method_6_code 0 = .ok (.iconst 0, 1) := by decide +kernel
theorem d5_1 : decode prog_6_method_6_code 1 = .ok (.istore_n 2, 1) := by decide +kernel
theorem d5_2 : decode prog_6_method_6_code 2 = .ok (.aload_n 0, 1) := by decide +kernel
theorem d5_3 : decode prog_6_method_6_code 3 = .ok (.getfield 32, 3) := by decide +kernel
theorem d5_6 : decode prog_6_method_6_code 6 = .ok (.istore_n 3, 1) := by decide +kernel
theorem d5_7 : decode prog_6_method_6_code 7 = .ok (.iload_n 2, 1) := by decide +kernel
theorem d5_8 : decode prog_6_method_6_code 8 = .ok (.iload_n 3, 1) := by decide +kernel
theorem d5_9 : decode prog_6_method_6_code 9 = .ok (.if_icmp .ge 35, 3) := by decide +kernel
theorem d5_12 : decode prog_6_method_6_code 12 = .ok (.iload_n 2, 1) := by decide +kernel
theorem d5_13 : decode prog_6_method_6_code 13 = .ok (.iload_n 3, 1) := by decide +kernel
theorem d5_14 : decode prog_6_method_6_code 14 = .ok (.iadd, 1) := by decide +kernel
theorem d5_15 : decode prog_6_method_6_code 15 = .ok (.iconst 1, 1) := by decide +kernel
theorem d5_16 : decode prog_6_method_6_code 16 = .ok (.iushr, 1) := by decide +kernel
theorem d5_17 : decode prog_6_method_6_code 17 = .ok (.istore 4, 2) := by decide +kernel
theorem d5_19 : decode prog_6_method_6_code 19 = .ok (.aload_n 0, 1) := by decide +kernel
theorem d5_20 : decode prog_6_method_6_code 20 = .ok (.getfield 7, 3) := by decide +kernel
theorem d5_23 : decode prog_6_method_6_code 23 = .ok (.iload 4, 2) := by decide +kernel
theorem d5_25 : decode prog_6_method_6_code 25 = .ok (.iaload, 1) := by decide +kernel
theorem d5_26 : decode prog_6_method_6_code 26 = .ok (.iload_n 1, 1) := by decide +kernel
theorem d5_27 : decode prog_6_method_6_code 27 = .ok (.if_icmp .ge 11, 3) := by decide +kernel
theorem d5_30 : decode prog_6_method_6_code 30 = .ok (.iload 4, 2) := by decide +kernel
theorem d5_32 : decode prog_6_method_6_code 32 = .ok (.iconst 1, 1) := by decide +kernel
theorem d5_33 : decode prog_6_method_6_code 33 = .ok (.iadd, 1) := by decide +kernel
theorem d5_34 : decode prog_6_method_6_code 34 = .ok (.istore_n 2, 1) := by decide +kernel
theorem d5_35 : decode prog_6_method_6_code 35 = .ok (.goto 6, 3) := by decide +kernel
theorem d5_38 : decode prog_6_method_6_code 38 = .ok (.iload 4, 2) := by decide +kernel
theorem d5_40 : decode prog_6_method_6_code 40 = .ok (.istore_n 3, 1) := by decide +kernel
theorem d5_41 : decode prog_6_method_6_code 41 = .ok (.goto (-34), 3) := by decide +kernel
theorem d5_44 : decode prog_6_method_6_code 44 = .ok (.iload_n 2, 1) := by decide +kernel
theorem d5_45 : decode prog_6_method_6_code 45 = .ok (.ireturn, 1) := by decide +kernel
set_option maxRecDepth 65536 in
set_option maxHeartbeats 40000000 in
theorem rm5 (l : Launch) (Z : State) (a0 : Array Value) (hw : ∀ d ∈ tables_1, d.before a0 Z = true) (ws : List Jvm.Cond) (o0 : Addr) (p1 : Int32) (x : Addr) (s0 : Int32) (xs : List Int32) (h0 : Heap) (n0 : Nat) (F1 : Fld Z h0 o0 "com/example/urd/urd/causes/Edges" "from" "[I" (.ref x)) (F2 : Fld Z h0 o0 "com/example/urd/urd/causes/Edges" "size" "I" (.int s0)) (A1 : own_A Z h0 x .int (64 : Int32) xs) (hs : ¬ s0 < 0 ∧ s0 < (64 : Int32)) (hso : own_sorted xs s0) :
    MetFree l (⟨"com/example/urd/urd/causes/Edges", "first", "(I)I"⟩ : MethodName) (head1 (Jvm.Cond.code (⟨"com/example/urd/urd/causes/Edges", "first", "(I)I"⟩ : MethodName) prog_6_method_6_code 5 (some .int) :: ws) own_R5) (fun a U => a = #[(.ref o0), (.int p1)] ∧ Z.Warmed39 U.vm ∧ U.heap = h0) (fun _ _ _ _ _ => True) (fun _ U o U' => ∃ v L, o = .returned v ∧ Q5 xs s0 p1 h0 n0 v U'.heap L ∧ FrameEnd U o U' L own_R5.cells own_R5.slots) := by
  refine MetFree.of_bodySF (plainFor_of_name own_pn5) hisR ?_
  intro p e s m args below meth c s₁ Bd hml0 hP hK
  obtain ⟨ha, hZ, hh⟩ := hP
  have hx := Bd.exec
  have hby := Bd.bytes
  have hml : c.maxLocals = 5 := hml0
  have hown : s.vm.findClass "com/example/urd/urd/causes/Edges" = some m.cls := findClass_of_methodNamed Bd.named
  have hnm := (name_of_methodNamed Bd.named Bd.method).1
  have X0 : Stand p l e own_R5 s m args below meth c s₁ [] 0 0 := Stand.of_body Bd
  have e0 : s₁.heap = h0 := by rw [← hh, Bd.state]; rfl
  have N0 := Fr.nil n0
  refine own_enter (Q := (Q5 xs s0 p1 h0 n0)) (g := mkF m 0 #[.val (.ref o0), .val (.int p1), .unset, .unset, .unset] []) (by rw [ha]; exact own_ef5 m o0 p1) ?_
  refine own_run (g' := (mkF m 3 #[.val (.ref o0), .val (.int p1), .val (.int (0 : Int32)), .unset, .unset] [(.ref o0)])) (fun _ kt => XS.iconst X0.here hx rfl (hb hby d5_0) (XS.istoreN X0.here hx rfl (hb hby d5_1) rfl (l' := #[.val (.ref o0), .val (.int p1), .val (.int (0 : Int32)), .unset, .unset]) rfl (XS.aloadN X0.here hx rfl (hb hby d5_2) rfl rfl (kt)))) ?_
  refine own_getF X0 hx hZ hown (host := "") (Or.inl (hw _ (List.mem_of_getElem? (i := 31) rfl))) Via.refl e0 F2 (hb hby d5_3) ?_
  intro T1 X1 e1
  refine own_run (g' := (mkF m 7 #[.val (.ref o0), .val (.int p1), .val (.int (0 : Int32)), .val (.int s0), .unset] [])) (fun _ kt => XS.istoreN X1.here hx rfl (hb hby d5_6) rfl (l' := #[.val (.ref o0), .val (.int p1), .val (.int (0 : Int32)), .val (.int s0), .unset]) rfl (kt)) ?_
  have loop2 : ∀ (mz : Nat) (T2 : State) (L2 : List Loc) (lo : Int32) (hi : Int32) (s2_4 : Slot) (a : Nat) (b : Nat), Stand p l e own_R5 s m args below meth c T2 L2 0 0 → Fr n0 L2 → T2.heap = h0 → (s2_4 = .unset ∨ ∃ w, s2_4 = .val w ∧ w.category = 1) → (lo = Int32.ofNat a) → (hi = Int32.ofNat b) → (a ≤ b ∧ b ≤ s0.toNatClampNeg) → (∀ i, i < a → xs.getD i 0 < p1) → (∀ i, b ≤ i → i < s0.toNatClampNeg → ¬ xs.getD i 0 < p1) → b - a = mz → own_Run p e below s own_R5.cells own_R5.slots (Q5 xs s0 p1 h0 n0) T2 (mkF m 7 #[.val (.ref o0), .val (.int p1), .val (.int lo), .val (.int hi), s2_4] []) := by
    intro mz
    induction mz using Nat.strongRecOn with
    | _ mz ih2 =>
      intro T2 L2 lo hi s2_4 a b X2 N2 e2 hs2_4 hlo hhi hab hlt hge hmz
      refine own_run (g' := (mkF m 9 #[.val (.ref o0), .val (.int p1), .val (.int lo), .val (.int hi), s2_4] [(.int hi), (.int lo)])) (fun _ kt => XS.iloadN X2.here hx rfl (hb hby d5_7) rfl (XS.iloadN X2.here hx rfl (hb hby d5_8) rfl (kt))) ?_
      have hsb := own_clamp_lt s0
      have hcc : lo < hi ↔ a < b := by rw [hlo, hhi, own_ofnat_lt (by omega), own_clamp (by omega)]
      by_cases hc9 : lo < hi
      · refine own_run (g' := (mkF m 12 #[.val (.ref o0), .val (.int p1), .val (.int lo), .val (.int hi), s2_4] [])) (fun _ kt => XS.icmpNo X2.here hx rfl (hb hby d5_9) rfl ((tlt hc9).2.1) (kt)) ?_
        have hab' : a < b := hcc.mp hc9
        refine own_run (g' := (mkF m 19 #[.val (.ref o0), .val (.int p1), .val (.int lo), .val (.int hi), .val (.int (XT.ushr (lo + hi) (1 : Int32)))] [])) (fun _ kt => XS.iloadN X2.here hx rfl (hb hby d5_12) rfl (XS.iloadN X2.here hx rfl (hb hby d5_13) rfl (XS.iadd X2.here hx rfl (hb hby d5_14) rfl (XS.iconst X2.here hx rfl (hb hby d5_15) (XS.iushr X2.here hx rfl (hb hby d5_16) rfl (XS.istore X2.here hx rfl (hb hby d5_17) rfl (l' := #[.val (.ref o0), .val (.int p1), .val (.int lo), .val (.int hi), .val (.int (XT.ushr (lo + hi) (1 : Int32)))]) (XS.store1 (o := s2_4) rfl hs2_4 rfl) (kt))))))) ?_
        obtain ⟨mid, hmd⟩ : ∃ z : Int32, z = (XT.ushr (lo + hi) (1 : Int32)) := ⟨_, rfl⟩
        rw [← hmd]
        have hmid : mid = Int32.ofNat ((a + b) / 2) := by rw [hmd, hlo, hhi]; exact own_mid (by omega) (by omega)
        have hmc : mid.toNatClampNeg = (a + b) / 2 := by rw [hmid]; exact own_clamp (by omega)
        have hs64 : s0.toNatClampNeg ≤ 64 := own_le64 hs
        have hin : ¬ mid < 0 ∧ mid < (64 : Int32) := by rw [hmid]; exact ⟨own_ofnat_nn (by omega), (own_ofnat_lt (by omega)).mpr (Nat.lt_of_lt_of_le (show (a + b) / 2 < 64 by omega) (Nat.le_of_eq rfl))⟩
        refine own_run (g' := (mkF m 20 #[.val (.ref o0), .val (.int p1), .val (.int lo), .val (.int hi), .val (.int mid)] [(.ref o0)])) (fun _ kt => XS.aloadN X2.here hx rfl (hb hby d5_19) rfl rfl (kt)) ?_
        refine own_getF X2 hx hZ hown (host := "") (Or.inl (hw _ (List.mem_of_getElem? (i := 17) rfl))) Via.refl e2 F1 (hb hby d5_20) ?_
        intro T3 X3 e3
        refine own_run (g' := (mkF m 25 #[.val (.ref o0), .val (.int p1), .val (.int lo), .val (.int hi), .val (.int mid)] [(.int mid), (.ref x)])) (fun _ kt => XS.iload X3.here hx rfl (hb hby d5_23) rfl (kt)) ?_
        refine own_ldI X3 hx hZ e3 A1 (j := mid) hin (hb hby d5_25) (x := (xs.getD mid.toNatClampNeg 0)) rfl ?_
        refine own_run (g' := (mkF m 27 #[.val (.ref o0), .val (.int p1), .val (.int lo), .val (.int hi), .val (.int mid)] [(.int p1), (.int (xs.getD mid.toNatClampNeg 0))])) (fun _ kt => XS.iloadN X3.here hx rfl (hb hby d5_26) rfl (kt)) ?_
        by_cases hc27 : (xs.getD mid.toNatClampNeg 0) < p1
        · refine own_run (g' := (mkF m 7 #[.val (.ref o0), .val (.int p1), .val (.int (mid + (1 : Int32))), .val (.int hi), .val (.int mid)] [])) (fun _ kt => XS.icmpNo X3.here hx rfl (hb hby d5_27) rfl ((tlt hc27).2.1) (XS.iload X3.here hx rfl (hb hby d5_30) rfl (XS.iconst X3.here hx rfl (hb hby d5_32) (XS.iadd X3.here hx rfl (hb hby d5_33) rfl (XS.istoreN X3.here hx rfl (hb hby d5_34) rfl (l' := #[.val (.ref o0), .val (.int p1), .val (.int (mid + (1 : Int32))), .val (.int hi), .val (.int mid)]) rfl (XS.goto X3.here hx rfl (pc0 := 35) (pc' := 41) rfl (hb hby d5_35) (by decide) (by decide) (XS.goto X3.here hx rfl (pc0 := 41) (pc' := 7) rfl (hb hby d5_41) (by decide) (by decide) (kt)))))))) ?_
          exact ih2 _ (by omega) T3 _ (mid + (1 : Int32)) hi (.val (.int mid)) ((a + b) / 2 + 1) b X3 N2 e3 (Or.inr ⟨_, rfl, rfl⟩) (by rw [hmid]; exact own_one _) hhi ⟨by omega, hab.2⟩ (fun i hi => own_up hso (by omega) (by rw [← hmc]; exact hc27) hi) hge rfl
        · refine own_run (g' := (mkF m 7 #[.val (.ref o0), .val (.int p1), .val (.int lo), .val (.int mid), .val (.int mid)] [])) (fun _ kt => XS.icmpYes X3.here hx rfl (pc0 := 27) (pc' := 38) rfl (hb hby d5_27) rfl ((flt hc27).2.1) (by decide) (by decide) (XS.iload X3.here hx rfl (hb hby d5_38) rfl (XS.istoreN X3.here hx rfl (hb hby d5_40) rfl (l' := #[.val (.ref o0), .val (.int p1), .val (.int lo), .val (.int mid), .val (.int mid)]) rfl (XS.goto X3.here hx rfl (pc0 := 41) (pc' := 7) rfl (hb hby d5_41) (by decide) (by decide) (kt))))) ?_
          exact ih2 _ (by omega) T3 _ lo mid (.val (.int mid)) a ((a + b) / 2) X3 N2 e3 (Or.inr ⟨_, rfl, rfl⟩) hlo hmid ⟨by omega, by omega⟩ hlt (fun i h1 h2 => own_down hso (by rw [← hmc]; exact hc27) h1 h2) rfl
      · refine own_run (g' := (mkF m 45 #[.val (.ref o0), .val (.int p1), .val (.int lo), .val (.int hi), s2_4] [(.int lo)])) (fun _ kt => XS.icmpYes X2.here hx rfl (pc0 := 9) (pc' := 44) rfl (hb hby d5_9) rfl ((flt hc9).2.1) (by decide) (by decide) (XS.iloadN X2.here hx rfl (hb hby d5_44) rfl (kt))) ?_
        have hba : ¬ a < b := fun q => hc9 (hcc.mpr q)
        exact own_retI X2 hx Bd.notSynchronized Bd.returns (hb hby d5_45) (by decide) (by decide) ⟨a, by rw [hlo], N2, e2, by omega, hlt, fun i h1 h2 => hge i (by omega) h2⟩
  exact loop2 _ T1 _ (0 : Int32) s0 (.unset) 0 s0.toNatClampNeg X1 N0 e1 (Or.inl rfl) rfl (own_back hs.1).symm ⟨Nat.zero_le _, Nat.le_refl _⟩ (fun i hi => absurd hi (Nat.not_lt_zero _)) (fun i h1 h2 => absurd h2 (Nat.not_lt.mpr h1)) rfl
theorem own_so0 (X0 : List Int32) (f0 f1 f2 f3 f4 : Int32) (hl : X0.length = 64) (h1 : f0.toInt ≤ f1.toInt) (h2 : f1.toInt ≤ f2.toInt) (h3 : f2.toInt ≤ f3.toInt) (h4 : f3.toInt ≤ f4.toInt) : own_sorted X0 (0 : Int32) := by
  intro i j hij hj
  have hj' : j < 0 := hj
  exact absurd hj' (Nat.not_lt_zero _)
theorem own_b0 {f q : Int32} : own_f4 (0 : Int32) f q = 0 := by unfold own_f4; rw [if_pos rfl]
theorem own_b1 {f q : Int32} (h : f < q) : own_f4 (1 : Int32) f q = 1 := by unfold own_f4; rw [if_neg (by decide), if_pos h]
theorem own_b2 {f q : Int32} (h : ¬ f < q) : own_f4 (1 : Int32) f q = 0 := by unfold own_f4; rw [if_neg (by decide), if_neg h]
theorem own_fin0 (X0 : List Int32) (f0 f1 f2 f3 f4 : Int32) (hl : X0.length = 64) (q : Int32) (r : Nat) (h : own_lb X0 (0 : Int32) q r) : Int32.ofNat r = (((((own_f4 (0 : Int32) f0 q) + (own_f4 (0 : Int32) f1 q)) + (own_f4 (0 : Int32) f2 q)) + (own_f4 (0 : Int32) f3 q)) + (own_f4 (0 : Int32) f4 q)) := by
  obtain ⟨h1, h2, h3⟩ := h
  have hr : r ≤ 0 := h1
  have er : r = 0 := by omega
  rcases er with rfl
  · have b0 : own_f4 (0 : Int32) f0 q = 0 := own_b0
    have b1 : own_f4 (0 : Int32) f1 q = 0 := own_b0
    have b2 : own_f4 (0 : Int32) f2 q = 0 := own_b0
    have b3 : own_f4 (0 : Int32) f3 q = 0 := own_b0
    have b4 : own_f4 (0 : Int32) f4 q = 0 := own_b0
    rw [b0, b1, b2, b3, b4]; rfl
theorem own_g1_0 (X0 : List Int32) (f0 f1 f2 f3 f4 : Int32) (hl : X0.length = 64) : (X0.set 0 f0).getD 0 0 = f0 := by simp [List.getD_eq_getElem?_getD, List.getElem?_set, hl]
theorem own_so1 (X0 : List Int32) (f0 f1 f2 f3 f4 : Int32) (hl : X0.length = 64) (h1 : f0.toInt ≤ f1.toInt) (h2 : f1.toInt ≤ f2.toInt) (h3 : f2.toInt ≤ f3.toInt) (h4 : f3.toInt ≤ f4.toInt) : own_sorted (X0.set 0 f0) (1 : Int32) := by
  intro i j hij hj
  have hj' : j < 1 := hj
  have ej : j = 0 := by omega
  have ei : i = 0 := by omega
  rcases ej with rfl <;> rcases ei with rfl <;> first | (exfalso; omega) | (simp only [own_g1_0 X0 f0 f1 f2 f3 f4 hl]; rw [Int32.lt_iff_toInt_lt]; omega)
theorem own_fin1 (X0 : List Int32) (f0 f1 f2 f3 f4 : Int32) (hl : X0.length = 64) (q : Int32) (r : Nat) (h : own_lb (X0.set 0 f0) (1 : Int32) q r) : Int32.ofNat r = (((((own_f4 (1 : Int32) f0 q) + (own_f4 (0 : Int32) f1 q)) + (own_f4 (0 : Int32) f2 q)) + (own_f4 (0 : Int32) f3 q)) + (own_f4 (0 : Int32) f4 q)) := by
  obtain ⟨h1, h2, h3⟩ := h
  have hr : r ≤ 1 := h1
  have er : r = 0 ∨ r = 1 := by omega
  rcases er with rfl | rfl
  · have b0 : own_f4 (1 : Int32) f0 q = 0 := own_b2 (by have := h3 0 (by decide) (by decide); rwa [own_g1_0 X0 f0 f1 f2 f3 f4 hl] at this)
    have b1 : own_f4 (0 : Int32) f1 q = 0 := own_b0
    have b2 : own_f4 (0 : Int32) f2 q = 0 := own_b0
    have b3 : own_f4 (0 : Int32) f3 q = 0 := own_b0
    have b4 : own_f4 (0 : Int32) f4 q = 0 := own_b0
    rw [b0, b1, b2, b3, b4]; rfl
  · have b0 : own_f4 (1 : Int32) f0 q = 1 := own_b1 (by have := h2 0 (by decide); rwa [own_g1_0 X0 f0 f1 f2 f3 f4 hl] at this)
    have b1 : own_f4 (0 : Int32) f1 q = 0 := own_b0
    have b2 : own_f4 (0 : Int32) f2 q = 0 := own_b0
    have b3 : own_f4 (0 : Int32) f3 q = 0 := own_b0
    have b4 : own_f4 (0 : Int32) f4 q = 0 := own_b0
    rw [b0, b1, b2, b3, b4]; rfl
theorem own_g2_0 (X0 : List Int32) (f0 f1 f2 f3 f4 : Int32) (hl : X0.length = 64) : ((X0.set 0 f0).set 1 f1).getD 0 0 = f0 := by simp [List.getD_eq_getElem?_getD, List.getElem?_set, hl]
theorem own_g2_1 (X0 : List Int32) (f0 f1 f2 f3 f4 : Int32) (hl : X0.length = 64) : ((X0.set 0 f0).set 1 f1).getD 1 0 = f1 := by simp [List.getD_eq_getElem?_getD, List.getElem?_set, hl]
theorem own_so2 (X0 : List Int32) (f0 f1 f2 f3 f4 : Int32) (hl : X0.length = 64) (h1 : f0.toInt ≤ f1.toInt) (h2 : f1.toInt ≤ f2.toInt) (h3 : f2.toInt ≤ f3.toInt) (h4 : f3.toInt ≤ f4.toInt) : own_sorted ((X0.set 0 f0).set 1 f1) (2 : Int32) := by
  intro i j hij hj
  have hj' : j < 2 := hj
  have ej : j = 0 ∨ j = 1 := by omega
  have ei : i = 0 ∨ i = 1 := by omega
  rcases ej with rfl | rfl <;> rcases ei with rfl | rfl <;> first | (exfalso; omega) | (simp only [own_g2_0 X0 f0 f1 f2 f3 f4 hl, own_g2_1 X0 f0 f1 f2 f3 f4 hl]; rw [Int32.lt_iff_toInt_lt]; omega)
theorem own_fin2 (X0 : List Int32) (f0 f1 f2 f3 f4 : Int32) (hl : X0.length = 64) (q : Int32) (r : Nat) (h : own_lb ((X0.set 0 f0).set 1 f1) (2 : Int32) q r) : Int32.ofNat r = (((((own_f4 (1 : Int32) f0 q) + (own_f4 (1 : Int32) f1 q)) + (own_f4 (0 : Int32) f2 q)) + (own_f4 (0 : Int32) f3 q)) + (own_f4 (0 : Int32) f4 q)) := by
  obtain ⟨h1, h2, h3⟩ := h
  have hr : r ≤ 2 := h1
  have er : r = 0 ∨ r = 1 ∨ r = 2 := by omega
  rcases er with rfl | rfl | rfl
  · have b0 : own_f4 (1 : Int32) f0 q = 0 := own_b2 (by have := h3 0 (by decide) (by decide); rwa [own_g2_0 X0 f0 f1 f2 f3 f4 hl] at this)
    have b1 : own_f4 (1 : Int32) f1 q = 0 := own_b2 (by have := h3 1 (by decide) (by decide); rwa [own_g2_1 X0 f0 f1 f2 f3 f4 hl] at this)
    have b2 : own_f4 (0 : Int32) f2 q = 0 := own_b0
    have b3 : own_f4 (0 : Int32) f3 q = 0 := own_b0
    have b4 : own_f4 (0 : Int32) f4 q = 0 := own_b0
    rw [b0, b1, b2, b3, b4]; rfl
  · have b0 : own_f4 (1 : Int32) f0 q = 1 := own_b1 (by have := h2 0 (by decide); rwa [own_g2_0 X0 f0 f1 f2 f3 f4 hl] at this)
    have b1 : own_f4 (1 : Int32) f1 q = 0 := own_b2 (by have := h3 1 (by decide) (by decide); rwa [own_g2_1 X0 f0 f1 f2 f3 f4 hl] at this)
    have b2 : own_f4 (0 : Int32) f2 q = 0 := own_b0
    have b3 : own_f4 (0 : Int32) f3 q = 0 := own_b0
    have b4 : own_f4 (0 : Int32) f4 q = 0 := own_b0
    rw [b0, b1, b2, b3, b4]; rfl
  · have b0 : own_f4 (1 : Int32) f0 q = 1 := own_b1 (by have := h2 0 (by decide); rwa [own_g2_0 X0 f0 f1 f2 f3 f4 hl] at this)
    have b1 : own_f4 (1 : Int32) f1 q = 1 := own_b1 (by have := h2 1 (by decide); rwa [own_g2_1 X0 f0 f1 f2 f3 f4 hl] at this)
    have b2 : own_f4 (0 : Int32) f2 q = 0 := own_b0
    have b3 : own_f4 (0 : Int32) f3 q = 0 := own_b0
    have b4 : own_f4 (0 : Int32) f4 q = 0 := own_b0
    rw [b0, b1, b2, b3, b4]; rfl
theorem own_g3_0 (X0 : List Int32) (f0 f1 f2 f3 f4 : Int32) (hl : X0.length = 64) : (((X0.set 0 f0).set 1 f1).set 2 f2).getD 0 0 = f0 := by simp [List.getD_eq_getElem?_getD, List.getElem?_set, hl]
theorem own_g3_1 (X0 : List Int32) (f0 f1 f2 f3 f4 : Int32) (hl : X0.length = 64) : (((X0.set 0 f0).set 1 f1).set 2 f2).getD 1 0 = f1 := by simp [List.getD_eq_getElem?_getD, List.getElem?_set, hl]
theorem own_g3_2 (X0 : List Int32) (f0 f1 f2 f3 f4 : Int32) (hl : X0.length = 64) : (((X0.set 0 f0).set 1 f1).set 2 f2).getD 2 0 = f2 := by simp [List.getD_eq_getElem?_getD, List.getElem?_set, hl]
theorem own_so3 (X0 : List Int32) (f0 f1 f2 f3 f4 : Int32) (hl : X0.length = 64) (h1 : f0.toInt ≤ f1.toInt) (h2 : f1.toInt ≤ f2.toInt) (h3 : f2.toInt ≤ f3.toInt) (h4 : f3.toInt ≤ f4.toInt) : own_sorted (((X0.set 0 f0).set 1 f1).set 2 f2) (3 : Int32) := by
  intro i j hij hj
  have hj' : j < 3 := hj
  have ej : j = 0 ∨ j = 1 ∨ j = 2 := by omega
  have ei : i = 0 ∨ i = 1 ∨ i = 2 := by omega
  rcases ej with rfl | rfl | rfl <;> rcases ei with rfl | rfl | rfl <;> first | (exfalso; omega) | (simp only [own_g3_0 X0 f0 f1 f2 f3 f4 hl, own_g3_1 X0 f0 f1 f2 f3 f4 hl, own_g3_2 X0 f0 f1 f2 f3 f4 hl]; rw [Int32.lt_iff_toInt_lt]; omega)
theorem own_fin3 (X0 : List Int32) (f0 f1 f2 f3 f4 : Int32) (hl : X0.length = 64) (q : Int32) (r : Nat) (h : own_lb (((X0.set 0 f0).set 1 f1).set 2 f2) (3 : Int32) q r) : Int32.ofNat r = (((((own_f4 (1 : Int32) f0 q) + (own_f4 (1 : Int32) f1 q)) + (own_f4 (1 : Int32) f2 q)) + (own_f4 (0 : Int32) f3 q)) + (own_f4 (0 : Int32) f4 q)) := by
  obtain ⟨h1, h2, h3⟩ := h
  have hr : r ≤ 3 := h1
  have er : r = 0 ∨ r = 1 ∨ r = 2 ∨ r = 3 := by omega
  rcases er with rfl | rfl | rfl | rfl
  · have b0 : own_f4 (1 : Int32) f0 q = 0 := own_b2 (by have := h3 0 (by decide) (by decide); rwa [own_g3_0 X0 f0 f1 f2 f3 f4 hl] at this)
    have b1 : own_f4 (1 : Int32) f1 q = 0 := own_b2 (by have := h3 1 (by decide) (by decide); rwa [own_g3_1 X0 f0 f1 f2 f3 f4 hl] at this)
    have b2 : own_f4 (1 : Int32) f2 q = 0 := own_b2 (by have := h3 2 (by decide) (by decide); rwa [own_g3_2 X0 f0 f1 f2 f3 f4 hl] at this)
    have b3 : own_f4 (0 : Int32) f3 q = 0 := own_b0
    have b4 : own_f4 (0 : Int32) f4 q = 0 := own_b0
    rw [b0, b1, b2, b3, b4]; rfl
  · have b0 : own_f4 (1 : Int32) f0 q = 1 := own_b1 (by have := h2 0 (by decide); rwa [own_g3_0 X0 f0 f1 f2 f3 f4 hl] at this)
    have b1 : own_f4 (1 : Int32) f1 q = 0 := own_b2 (by have := h3 1 (by decide) (by decide); rwa [own_g3_1 X0 f0 f1 f2 f3 f4 hl] at this)
    have b2 : own_f4 (1 : Int32) f2 q = 0 := own_b2 (by have := h3 2 (by decide) (by decide); rwa [own_g3_2 X0 f0 f1 f2 f3 f4 hl] at this)
    have b3 : own_f4 (0 : Int32) f3 q = 0 := own_b0
    have b4 : own_f4 (0 : Int32) f4 q = 0 := own_b0
    rw [b0, b1, b2, b3, b4]; rfl
  · have b0 : own_f4 (1 : Int32) f0 q = 1 := own_b1 (by have := h2 0 (by decide); rwa [own_g3_0 X0 f0 f1 f2 f3 f4 hl] at this)
    have b1 : own_f4 (1 : Int32) f1 q = 1 := own_b1 (by have := h2 1 (by decide); rwa [own_g3_1 X0 f0 f1 f2 f3 f4 hl] at this)
    have b2 : own_f4 (1 : Int32) f2 q = 0 := own_b2 (by have := h3 2 (by decide) (by decide); rwa [own_g3_2 X0 f0 f1 f2 f3 f4 hl] at this)
    have b3 : own_f4 (0 : Int32) f3 q = 0 := own_b0
    have b4 : own_f4 (0 : Int32) f4 q = 0 := own_b0
    rw [b0, b1, b2, b3, b4]; rfl
  · have b0 : own_f4 (1 : Int32) f0 q = 1 := own_b1 (by have := h2 0 (by decide); rwa [own_g3_0 X0 f0 f1 f2 f3 f4 hl] at this)
    have b1 : own_f4 (1 : Int32) f1 q = 1 := own_b1 (by have := h2 1 (by decide); rwa [own_g3_1 X0 f0 f1 f2 f3 f4 hl] at this)
    have b2 : own_f4 (1 : Int32) f2 q = 1 := own_b1 (by have := h2 2 (by decide); rwa [own_g3_2 X0 f0 f1 f2 f3 f4 hl] at this)
    have b3 : own_f4 (0 : Int32) f3 q = 0 := own_b0
    have b4 : own_f4 (0 : Int32) f4 q = 0 := own_b0
    rw [b0, b1, b2, b3, b4]; rfl
theorem own_g4_0 (X0 : List Int32) (f0 f1 f2 f3 f4 : Int32) (hl : X0.length = 64) : ((((X0.set 0 f0).set 1 f1).set 2 f2).set 3 f3).getD 0 0 = f0 := by simp [List.getD_eq_getElem?_getD, List.getElem?_set, hl]
theorem own_g4_1 (X0 : List Int32) (f0 f1 f2 f3 f4 : Int32) (hl : X0.length = 64) : ((((X0.set 0 f0).set 1 f1).set 2 f2).set 3 f3).getD 1 0 = f1 := by simp [List.getD_eq_getElem?_getD, List.getElem?_set, hl]
theorem own_g4_2 (X0 : List Int32) (f0 f1 f2 f3 f4 : Int32) (hl : X0.length = 64) : ((((X0.set 0 f0).set 1 f1).set 2 f2).set 3 f3).getD 2 0 = f2 := by simp [List.getD_eq_getElem?_getD, List.getElem?_set, hl]
theorem own_g4_3 (X0 : List Int32) (f0 f1 f2 f3 f4 : Int32) (hl : X0.length = 64) : ((((X0.set 0 f0).set 1 f1).set 2 f2).set 3 f3).getD 3 0 = f3 := by simp [List.getD_eq_getElem?_getD, List.getElem?_set, hl]
theorem own_so4 (X0 : List Int32) (f0 f1 f2 f3 f4 : Int32) (hl : X0.length = 64) (h1 : f0.toInt ≤ f1.toInt) (h2 : f1.toInt ≤ f2.toInt) (h3 : f2.toInt ≤ f3.toInt) (h4 : f3.toInt ≤ f4.toInt) : own_sorted ((((X0.set 0 f0).set 1 f1).set 2 f2).set 3 f3) (4 : Int32) := by
  intro i j hij hj
  have hj' : j < 4 := hj
  have ej : j = 0 ∨ j = 1 ∨ j = 2 ∨ j = 3 := by omega
  have ei : i = 0 ∨ i = 1 ∨ i = 2 ∨ i = 3 := by omega
  rcases ej with rfl | rfl | rfl | rfl <;> rcases ei with rfl | rfl | rfl | rfl <;> first | (exfalso; omega) | (simp only [own_g4_0 X0 f0 f1 f2 f3 f4 hl, own_g4_1 X0 f0 f1 f2 f3 f4 hl, own_g4_2 X0 f0 f1 f2 f3 f4 hl, own_g4_3 X0 f0 f1 f2 f3 f4 hl]; rw [Int32.lt_iff_toInt_lt]; omega)
theorem own_fin4 (X0 : List Int32) (f0 f1 f2 f3 f4 : Int32) (hl : X0.length = 64) (q : Int32) (r : Nat) (h : own_lb ((((X0.set 0 f0).set 1 f1).set 2 f2).set 3 f3) (4 : Int32) q r) : Int32.ofNat r = (((((own_f4 (1 : Int32) f0 q) + (own_f4 (1 : Int32) f1 q)) + (own_f4 (1 : Int32) f2 q)) + (own_f4 (1 : Int32) f3 q)) + (own_f4 (0 : Int32) f4 q)) := by
  obtain ⟨h1, h2, h3⟩ := h
  have hr : r ≤ 4 := h1
  have er : r = 0 ∨ r = 1 ∨ r = 2 ∨ r = 3 ∨ r = 4 := by omega
  rcases er with rfl | rfl | rfl | rfl | rfl
  · have b0 : own_f4 (1 : Int32) f0 q = 0 := own_b2 (by have := h3 0 (by decide) (by decide); rwa [own_g4_0 X0 f0 f1 f2 f3 f4 hl] at this)
    have b1 : own_f4 (1 : Int32) f1 q = 0 := own_b2 (by have := h3 1 (by decide) (by decide); rwa [own_g4_1 X0 f0 f1 f2 f3 f4 hl] at this)
    have b2 : own_f4 (1 : Int32) f2 q = 0 := own_b2 (by have := h3 2 (by decide) (by decide); rwa [own_g4_2 X0 f0 f1 f2 f3 f4 hl] at this)
    have b3 : own_f4 (1 : Int32) f3 q = 0 := own_b2 (by have := h3 3 (by decide) (by decide); rwa [own_g4_3 X0 f0 f1 f2 f3 f4 hl] at this)
    have b4 : own_f4 (0 : Int32) f4 q = 0 := own_b0
    rw [b0, b1, b2, b3, b4]; rfl
  · have b0 : own_f4 (1 : Int32) f0 q = 1 := own_b1 (by have := h2 0 (by decide); rwa [own_g4_0 X0 f0 f1 f2 f3 f4 hl] at this)
    have b1 : own_f4 (1 : Int32) f1 q = 0 := own_b2 (by have := h3 1 (by decide) (by decide); rwa [own_g4_1 X0 f0 f1 f2 f3 f4 hl] at this)
    have b2 : own_f4 (1 : Int32) f2 q = 0 := own_b2 (by have := h3 2 (by decide) (by decide); rwa [own_g4_2 X0 f0 f1 f2 f3 f4 hl] at this)
    have b3 : own_f4 (1 : Int32) f3 q = 0 := own_b2 (by have := h3 3 (by decide) (by decide); rwa [own_g4_3 X0 f0 f1 f2 f3 f4 hl] at this)
    have b4 : own_f4 (0 : Int32) f4 q = 0 := own_b0
    rw [b0, b1, b2, b3, b4]; rfl
  · have b0 : own_f4 (1 : Int32) f0 q = 1 := own_b1 (by have := h2 0 (by decide); rwa [own_g4_0 X0 f0 f1 f2 f3 f4 hl] at this)
    have b1 : own_f4 (1 : Int32) f1 q = 1 := own_b1 (by have := h2 1 (by decide); rwa [own_g4_1 X0 f0 f1 f2 f3 f4 hl] at this)
    have b2 : own_f4 (1 : Int32) f2 q = 0 := own_b2 (by have := h3 2 (by decide) (by decide); rwa [own_g4_2 X0 f0 f1 f2 f3 f4 hl] at this)
    have b3 : own_f4 (1 : Int32) f3 q = 0 := own_b2 (by have := h3 3 (by decide) (by decide); rwa [own_g4_3 X0 f0 f1 f2 f3 f4 hl] at this)
    have b4 : own_f4 (0 : Int32) f4 q = 0 := own_b0
    rw [b0, b1, b2, b3, b4]; rfl
  · have b0 : own_f4 (1 : Int32) f0 q = 1 := own_b1 (by have := h2 0 (by decide); rwa [own_g4_0 X0 f0 f1 f2 f3 f4 hl] at this)
    have b1 : own_f4 (1 : Int32) f1 q = 1 := own_b1 (by have := h2 1 (by decide); rwa [own_g4_1 X0 f0 f1 f2 f3 f4 hl] at this)
    have b2 : own_f4 (1 : Int32) f2 q = 1 := own_b1 (by have := h2 2 (by decide); rwa [own_g4_2 X0 f0 f1 f2 f3 f4 hl] at this)
    have b3 : own_f4 (1 : Int32) f3 q = 0 := own_b2 (by have := h3 3 (by decide) (by decide); rwa [own_g4_3 X0 f0 f1 f2 f3 f4 hl] at this)
    have b4 : own_f4 (0 : Int32) f4 q = 0 := own_b0
    rw [b0, b1, b2, b3, b4]; rfl
  · have b0 : own_f4 (1 : Int32) f0 q = 1 := own_b1 (by have := h2 0 (by decide); rwa [own_g4_0 X0 f0 f1 f2 f3 f4 hl] at this)
    have b1 : own_f4 (1 : Int32) f1 q = 1 := own_b1 (by have := h2 1 (by decide); rwa [own_g4_1 X0 f0 f1 f2 f3 f4 hl] at this)
    have b2 : own_f4 (1 : Int32) f2 q = 1 := own_b1 (by have := h2 2 (by decide); rwa [own_g4_2 X0 f0 f1 f2 f3 f4 hl] at this)
    have b3 : own_f4 (1 : Int32) f3 q = 1 := own_b1 (by have := h2 3 (by decide); rwa [own_g4_3 X0 f0 f1 f2 f3 f4 hl] at this)
    have b4 : own_f4 (0 : Int32) f4 q = 0 := own_b0
    rw [b0, b1, b2, b3, b4]; rfl
theorem own_g5_0 (X0 : List Int32) (f0 f1 f2 f3 f4 : Int32) (hl : X0.length = 64) : (((((X0.set 0 f0).set 1 f1).set 2 f2).set 3 f3).set 4 f4).getD 0 0 = f0 := by simp [List.getD_eq_getElem?_getD, List.getElem?_set, hl]
theorem own_g5_1 (X0 : List Int32) (f0 f1 f2 f3 f4 : Int32) (hl : X0.length = 64) : (((((X0.set 0 f0).set 1 f1).set 2 f2).set 3 f3).set 4 f4).getD 1 0 = f1 := by simp [List.getD_eq_getElem?_getD, List.getElem?_set, hl]
theorem own_g5_2 (X0 : List Int32) (f0 f1 f2 f3 f4 : Int32) (hl : X0.length = 64) : (((((X0.set 0 f0).set 1 f1).set 2 f2).set 3 f3).set 4 f4).getD 2 0 = f2 := by simp [List.getD_eq_getElem?_getD, List.getElem?_set, hl]
theorem own_g5_3 (X0 : List Int32) (f0 f1 f2 f3 f4 : Int32) (hl : X0.length = 64) : (((((X0.set 0 f0).set 1 f1).set 2 f2).set 3 f3).set 4 f4).getD 3 0 = f3 := by simp [List.getD_eq_getElem?_getD, List.getElem?_set, hl]
theorem own_g5_4 (X0 : List Int32) (f0 f1 f2 f3 f4 : Int32) (hl : X0.length = 64) : (((((X0.set 0 f0).set 1 f1).set 2 f2).set 3 f3).set 4 f4).getD 4 0 = f4 := by simp [List.getD_eq_getElem?_getD, List.getElem?_set, hl]
theorem own_so5 (X0 : List Int32) (f0 f1 f2 f3 f4 : Int32) (hl : X0.length = 64) (h1 : f0.toInt ≤ f1.toInt) (h2 : f1.toInt ≤ f2.toInt) (h3 : f2.toInt ≤ f3.toInt) (h4 : f3.toInt ≤ f4.toInt) : own_sorted (((((X0.set 0 f0).set 1 f1).set 2 f2).set 3 f3).set 4 f4) (5 : Int32) := by
  intro i j hij hj
  have hj' : j < 5 := hj
  have ej : j = 0 ∨ j = 1 ∨ j = 2 ∨ j = 3 ∨ j = 4 := by omega
  have ei : i = 0 ∨ i = 1 ∨ i = 2 ∨ i = 3 ∨ i = 4 := by omega
  rcases ej with rfl | rfl | rfl | rfl | rfl <;> rcases ei with rfl | rfl | rfl | rfl | rfl <;> first | (exfalso; omega) | (simp only [own_g5_0 X0 f0 f1 f2 f3 f4 hl, own_g5_1 X0 f0 f1 f2 f3 f4 hl, own_g5_2 X0 f0 f1 f2 f3 f4 hl, own_g5_3 X0 f0 f1 f2 f3 f4 hl, own_g5_4 X0 f0 f1 f2 f3 f4 hl]; rw [Int32.lt_iff_toInt_lt]; omega)
theorem own_fin5 (X0 : List Int32) (f0 f1 f2 f3 f4 : Int32) (hl : X0.length = 64) (q : Int32) (r : Nat) (h : own_lb (((((X0.set 0 f0).set 1 f1).set 2 f2).set 3 f3).set 4 f4) (5 : Int32) q r) : Int32.ofNat r = (((((own_f4 (1 : Int32) f0 q) + (own_f4 (1 : Int32) f1 q)) + (own_f4 (1 : Int32) f2 q)) + (own_f4 (1 : Int32) f3 q)) + (own_f4 (1 : Int32) f4 q)) := by
  obtain ⟨h1, h2, h3⟩ := h
  have hr : r ≤ 5 := h1
  have er : r = 0 ∨ r = 1 ∨ r = 2 ∨ r = 3 ∨ r = 4 ∨ r = 5 := by omega
  rcases er with rfl | rfl | rfl | rfl | rfl | rfl
  · have b0 : own_f4 (1 : Int32) f0 q = 0 := own_b2 (by have := h3 0 (by decide) (by decide); rwa [own_g5_0 X0 f0 f1 f2 f3 f4 hl] at this)
    have b1 : own_f4 (1 : Int32) f1 q = 0 := own_b2 (by have := h3 1 (by decide) (by decide); rwa [own_g5_1 X0 f0 f1 f2 f3 f4 hl] at this)
    have b2 : own_f4 (1 : Int32) f2 q = 0 := own_b2 (by have := h3 2 (by decide) (by decide); rwa [own_g5_2 X0 f0 f1 f2 f3 f4 hl] at this)
    have b3 : own_f4 (1 : Int32) f3 q = 0 := own_b2 (by have := h3 3 (by decide) (by decide); rwa [own_g5_3 X0 f0 f1 f2 f3 f4 hl] at this)
    have b4 : own_f4 (1 : Int32) f4 q = 0 := own_b2 (by have := h3 4 (by decide) (by decide); rwa [own_g5_4 X0 f0 f1 f2 f3 f4 hl] at this)
    rw [b0, b1, b2, b3, b4]; rfl
  · have b0 : own_f4 (1 : Int32) f0 q = 1 := own_b1 (by have := h2 0 (by decide); rwa [own_g5_0 X0 f0 f1 f2 f3 f4 hl] at this)
    have b1 : own_f4 (1 : Int32) f1 q = 0 := own_b2 (by have := h3 1 (by decide) (by decide); rwa [own_g5_1 X0 f0 f1 f2 f3 f4 hl] at this)
    have b2 : own_f4 (1 : Int32) f2 q = 0 := own_b2 (by have := h3 2 (by decide) (by decide); rwa [own_g5_2 X0 f0 f1 f2 f3 f4 hl] at this)
    have b3 : own_f4 (1 : Int32) f3 q = 0 := own_b2 (by have := h3 3 (by decide) (by decide); rwa [own_g5_3 X0 f0 f1 f2 f3 f4 hl] at this)
    have b4 : own_f4 (1 : Int32) f4 q = 0 := own_b2 (by have := h3 4 (by decide) (by decide); rwa [own_g5_4 X0 f0 f1 f2 f3 f4 hl] at this)
    rw [b0, b1, b2, b3, b4]; rfl
  · have b0 : own_f4 (1 : Int32) f0 q = 1 := own_b1 (by have := h2 0 (by decide); rwa [own_g5_0 X0 f0 f1 f2 f3 f4 hl] at this)
    have b1 : own_f4 (1 : Int32) f1 q = 1 := own_b1 (by have := h2 1 (by decide); rwa [own_g5_1 X0 f0 f1 f2 f3 f4 hl] at this)
    have b2 : own_f4 (1 : Int32) f2 q = 0 := own_b2 (by have := h3 2 (by decide) (by decide); rwa [own_g5_2 X0 f0 f1 f2 f3 f4 hl] at this)
    have b3 : own_f4 (1 : Int32) f3 q = 0 := own_b2 (by have := h3 3 (by decide) (by decide); rwa [own_g5_3 X0 f0 f1 f2 f3 f4 hl] at this)
    have b4 : own_f4 (1 : Int32) f4 q = 0 := own_b2 (by have := h3 4 (by decide) (by decide); rwa [own_g5_4 X0 f0 f1 f2 f3 f4 hl] at this)
    rw [b0, b1, b2, b3, b4]; rfl
  · have b0 : own_f4 (1 : Int32) f0 q = 1 := own_b1 (by have := h2 0 (by decide); rwa [own_g5_0 X0 f0 f1 f2 f3 f4 hl] at this)
    have b1 : own_f4 (1 : Int32) f1 q = 1 := own_b1 (by have := h2 1 (by decide); rwa [own_g5_1 X0 f0 f1 f2 f3 f4 hl] at this)
    have b2 : own_f4 (1 : Int32) f2 q = 1 := own_b1 (by have := h2 2 (by decide); rwa [own_g5_2 X0 f0 f1 f2 f3 f4 hl] at this)
    have b3 : own_f4 (1 : Int32) f3 q = 0 := own_b2 (by have := h3 3 (by decide) (by decide); rwa [own_g5_3 X0 f0 f1 f2 f3 f4 hl] at this)
    have b4 : own_f4 (1 : Int32) f4 q = 0 := own_b2 (by have := h3 4 (by decide) (by decide); rwa [own_g5_4 X0 f0 f1 f2 f3 f4 hl] at this)
    rw [b0, b1, b2, b3, b4]; rfl
  · have b0 : own_f4 (1 : Int32) f0 q = 1 := own_b1 (by have := h2 0 (by decide); rwa [own_g5_0 X0 f0 f1 f2 f3 f4 hl] at this)
    have b1 : own_f4 (1 : Int32) f1 q = 1 := own_b1 (by have := h2 1 (by decide); rwa [own_g5_1 X0 f0 f1 f2 f3 f4 hl] at this)
    have b2 : own_f4 (1 : Int32) f2 q = 1 := own_b1 (by have := h2 2 (by decide); rwa [own_g5_2 X0 f0 f1 f2 f3 f4 hl] at this)
    have b3 : own_f4 (1 : Int32) f3 q = 1 := own_b1 (by have := h2 3 (by decide); rwa [own_g5_3 X0 f0 f1 f2 f3 f4 hl] at this)
    have b4 : own_f4 (1 : Int32) f4 q = 0 := own_b2 (by have := h3 4 (by decide) (by decide); rwa [own_g5_4 X0 f0 f1 f2 f3 f4 hl] at this)
    rw [b0, b1, b2, b3, b4]; rfl
  · have b0 : own_f4 (1 : Int32) f0 q = 1 := own_b1 (by have := h2 0 (by decide); rwa [own_g5_0 X0 f0 f1 f2 f3 f4 hl] at this)
    have b1 : own_f4 (1 : Int32) f1 q = 1 := own_b1 (by have := h2 1 (by decide); rwa [own_g5_1 X0 f0 f1 f2 f3 f4 hl] at this)
    have b2 : own_f4 (1 : Int32) f2 q = 1 := own_b1 (by have := h2 2 (by decide); rwa [own_g5_2 X0 f0 f1 f2 f3 f4 hl] at this)
    have b3 : own_f4 (1 : Int32) f3 q = 1 := own_b1 (by have := h2 3 (by decide); rwa [own_g5_3 X0 f0 f1 f2 f3 f4 hl] at this)
    have b4 : own_f4 (1 : Int32) f4 q = 1 := own_b1 (by have := h2 4 (by decide); rwa [own_g5_4 X0 f0 f1 f2 f3 f4 hl] at this)
    rw [b0, b1, b2, b3, b4]; rfl
theorem own_pn0 : plainName "com/example/urd/urd/causes/EdgesFirstPinLaw" = true := by first | (simp [plainName, overriddenIn]; done) | decide +kernel
theorem own_ef0 (m : MethodId) (p0 : Int32) (p1 : Int32) (p2 : Int32) (p3 : Int32) (p4 : Int32) : entryFrame m #[(.int p0), (.int p1), (.int p2), (.int p3), (.int p4)] maxLocals = mkF m 0 #[.val (.int p0), .val (.int p1), .val (.int p2), .val (.int p3), .val (.int p4), .unset, .unset, .unset, .unset, .unset, .unset, .unset, .unset, .unset] [] := by first | (simp [entryFrame, mkF, argsToLocals, Value.category, maxLocals]; done) | rfl
def Q0 (h0 : Heap) (n0 : Nat) (v : Option Value) (h : Heap) (L : List Loc) : Prop := v = some (.int 1) ∧ Fr n0 L
theorem own_pd0 : parseMethodDescriptor "(J)I" = some ⟨[.long], some .int⟩ := by decide +kernel
theorem own_pd1 : parseMethodDescriptor "()V" = some ⟨[], none⟩ := by decide +kernel
theorem own_pd2 : parseMethodDescriptor "(III)V" = some ⟨[.int, .int, .int], none⟩ := by decide +kernel
theorem own_pd3 : parseMethodDescriptor "(ZII)I" = some ⟨[.boolean, .int, .int], some .int⟩ := by decide +kernel
theorem own_pd4 : parseMethodDescriptor "(I)I" = some ⟨[.int], some .int⟩ := by decide +kernel
set_option maxRecDepth 65536 in
set_option maxHeartbeats 40000000 in
theorem rm0 (l : Launch) (Z : State) (a0 : Array Value) (hw : ∀ d ∈ tables_1, d.before a0 Z = true) (ws : List Jvm.Cond) (p0 : Int32) (p1 : Int32) (p2 : Int32) (p3 : Int32) (p4 : Int32) (h0 : Heap) (n0 : Nat) (Z0 : n0 ≤ h0.size) :
    MetFree l x (head1 (Jvm.Cond.code x code maxLocals ret :: ws) room_1) (fun a U => a = #[(.int p0), (.int p1), (.int p2), (.int p3), (.int p4)] ∧ Z.Warmed39 U.vm ∧ U.heap = h0) (fun _ _ _ _ _ => True) (fun _ U o U' => ∃ v L, o = .returned v ∧ Q0 h0 n0 v U'.heap L ∧ FrameEnd U o U' L room_1.cells room_1.slots) := by
  refine MetFree.of_bodySF (plainFor_of_name own_pn0) hisR ?_
  intro p e s m args below meth c s₁ Bd hml0 hP hK
  obtain ⟨ha, hZ, hh⟩ := hP
  have hx := Bd.exec
  have hby := Bd.bytes
  have hml : c.maxLocals = 14 := hml0
  have hown : s.vm.findClass "com/example/urd/urd/causes/EdgesFirstPinLaw" = some m.cls := findClass_of_methodNamed Bd.named
  have hnm := (name_of_methodNamed Bd.named Bd.method).1
  have X0 : Stand p l e room_1 s m args below meth c s₁ [] 0 0 := Stand.of_body Bd
  have e0 : s₁.heap = h0 := by rw [← hh, Bd.state]; rfl
  have N0 := Fr.nil n0
  refine own_enter (Q := (Q0 h0 n0)) (g := mkF m 0 #[.val (.int p0), .val (.int p1), .val (.int p2), .val (.int p3), .val (.int p4), .unset, .unset, .unset, .unset, .unset, .unset, .unset, .unset, .unset] []) (by rw [ha]; exact own_ef0 m p0 p1 p2 p3 p4) ?_
  refine own_run (g' := (mkF m 1 #[.val (.int p0), .val (.int p1), .val (.int p2), .val (.int p3), .val (.int p4), .unset, .unset, .unset, .unset, .unset, .unset, .unset, .unset, .unset] [(.int p0)])) (fun _ kt => XS.iloadN X0.here hx rfl (hb hby at_0) rfl (kt)) ?_
  refine own_ldcI X0 hx hZ hown (hw _ (List.mem_of_getElem? (i := 0) rfl)) (hb hby at_1) ?_
  refine own_run (g' := (mkF m 9 #[.val (.int p0), .val (.int p1), .val (.int p2), .val (.int p3), .val (.int p4), .val (.int ((p0 &&& (2147483647 : Int32)) % (6 : Int32))), .unset, .unset, .unset, .unset, .unset, .unset, .unset, .unset] [])) (fun _ kt => XS.iand X0.here hx rfl (hb hby at_3) rfl (XS.bipush X0.here hx rfl (hb hby at_4) (own_irem X0.here hx rfl (hb hby at_6) rfl (by decide) (XS.istore X0.here hx rfl (hb hby at_7) rfl (l' := #[.val (.int p0), .val (.int p1), .val (.int p2), .val (.int p3), .val (.int p4), .val (.int ((p0 &&& (2147483647 : Int32)) % (6 : Int32))), .unset, .unset, .unset, .unset, .unset, .unset, .unset, .unset]) rfl (kt))))) ?_
  obtain ⟨v7, hv7⟩ : ∃ z : Int32, z = ((p0 &&& (2147483647 : Int32)) % (6 : Int32)) := ⟨_, rfl⟩
  rw [← hv7]
  refine own_run (g' := (mkF m 19 #[.val (.int p0), .val (.int p1), .val (.int p2), .val (.int p3), .val (.int p4), .val (.int v7), .val (.int p1), .unset, .unset, .unset, .unset, .unset, .unset, .unset] [(.long (p2 &&& (3 : Int32)).toInt64), (.long p1.toInt64)])) (fun _ kt => XS.iloadN X0.here hx rfl (hb hby at_9) rfl (XS.istore X0.here hx rfl (hb hby at_10) rfl (l' := #[.val (.int p0), .val (.int p1), .val (.int p2), .val (.int p3), .val (.int p4), .val (.int v7), .val (.int p1), .unset, .unset, .unset, .unset, .unset, .unset, .unset]) rfl (XS.iload X0.here hx rfl (hb hby at_12) rfl (XS.i2l X0.here hx rfl (hb hby at_14) rfl (XS.iloadN X0.here hx rfl (hb hby at_15) rfl (XS.iconst X0.here hx rfl (hb hby at_16) (XS.iand X0.here hx rfl (hb hby at_17) rfl (XS.i2l X0.here hx rfl (hb hby at_18) rfl (kt))))))))) ?_
  refine own_run (g' := (mkF m 20 #[.val (.int p0), .val (.int p1), .val (.int p2), .val (.int p3), .val (.int p4), .val (.int v7), .val (.int p1), .unset, .unset, .unset, .unset, .unset, .unset, .unset] [(.long (p1.toInt64 + (p2 &&& (3 : Int32)).toInt64))])) (fun _ kt => XS.ladd X0.here hx rfl (hb hby at_19) rfl (kt)) ?_
  refine own_callS X0 hx hZ hown (hw _ (List.mem_of_getElem? (i := 1) rfl)) (hw _ (List.mem_of_getElem? (i := 2) rfl)) (hw _ (List.mem_of_getElem? (i := 3) rfl)) (hw _ (List.mem_of_getElem? (i := 4) rfl)) (by decide) (rm1 l Z a0 hw [] (p1.toInt64 + (p2 &&& (3 : Int32)).toInt64) h0 n0) e0 (by decide) (by decide) (by decide) (by decide) (by rw [hml]; rfl) (argsL := [(.long (p1.toInt64 + (p2 &&& (3 : Int32)).toInt64))]) (rest := []) (lenOf own_pd0 rfl) rfl (W := 0) (Nat.le_of_eq rfl) (hb hby at_20) ?_
  intro T1 r1 L1 X1 hQ1
  obtain ⟨rfl, Nq1, e1⟩ := hQ1
  have N1 := Fr.app N0 Nq1
  refine own_run (g' := (mkF m 25 #[.val (.int p0), .val (.int p1), .val (.int p2), .val (.int p3), .val (.int p4), .val (.int v7), .val (.int p1), .val (.int (own_f1 (p1.toInt64 + (p2 &&& (3 : Int32)).toInt64))), .unset, .unset, .unset, .unset, .unset, .unset] [])) (fun _ kt => XS.istore X1.here hx rfl (hb hby at_23) rfl (l' := #[.val (.int p0), .val (.int p1), .val (.int p2), .val (.int p3), .val (.int p4), .val (.int v7), .val (.int p1), .val (.int (own_f1 (p1.toInt64 + (p2 &&& (3 : Int32)).toInt64))), .unset, .unset, .unset, .unset, .unset, .unset]) rfl (kt)) ?_
  obtain ⟨v23, hv23⟩ : ∃ z : Int32, z = (own_f1 (p1.toInt64 + (p2 &&& (3 : Int32)).toInt64)) := ⟨_, rfl⟩
  rw [← hv23]
  refine own_run (g' := (mkF m 34 #[.val (.int p0), .val (.int p1), .val (.int p2), .val (.int p3), .val (.int p4), .val (.int v7), .val (.int p1), .val (.int v23), .unset, .unset, .unset, .unset, .unset, .unset] [(.long ((p2 >>> ((2 : Int32) &&& 31)) &&& (3 : Int32)).toInt64), (.long v23.toInt64)])) (fun _ kt => XS.iload X1.here hx rfl (hb hby at_25) rfl (XS.i2l X1.here hx rfl (hb hby at_27) rfl (XS.iloadN X1.here hx rfl (hb hby at_28) rfl (XS.iconst X1.here hx rfl (hb hby at_29) (XS.ishr X1.here hx rfl (hb hby at_30) rfl (XS.iconst X1.here hx rfl (hb hby at_31) (XS.iand X1.here hx rfl (hb hby at_32) rfl (XS.i2l X1.here hx rfl (hb hby at_33) rfl (kt))))))))) ?_
  refine own_run (g' := (mkF m 35 #[.val (.int p0), .val (.int p1), .val (.int p2), .val (.int p3), .val (.int p4), .val (.int v7), .val (.int p1), .val (.int v23), .unset, .unset, .unset, .unset, .unset, .unset] [(.long (v23.toInt64 + ((p2 >>> ((2 : Int32) &&& 31)) &&& (3 : Int32)).toInt64))])) (fun _ kt => XS.ladd X1.here hx rfl (hb hby at_34) rfl (kt)) ?_
  refine own_callS X1 hx hZ hown (hw _ (List.mem_of_getElem? (i := 1) rfl)) (hw _ (List.mem_of_getElem? (i := 2) rfl)) (hw _ (List.mem_of_getElem? (i := 3) rfl)) (hw _ (List.mem_of_getElem? (i := 4) rfl)) (by decide) (rm1 l Z a0 hw [] (v23.toInt64 + ((p2 >>> ((2 : Int32) &&& 31)) &&& (3 : Int32)).toInt64) h0 n0) e1 (by decide) (by decide) (by decide) (by decide) (by rw [hml]; rfl) (argsL := [(.long (v23.toInt64 + ((p2 >>> ((2 : Int32) &&& 31)) &&& (3 : Int32)).toInt64))]) (rest := []) (lenOf own_pd0 rfl) rfl (W := 0) (Nat.le_of_eq rfl) (hb hby at_35) ?_
  intro T2 r2 L2 X2 hQ2
  obtain ⟨rfl, Nq2, e2⟩ := hQ2
  have N2 := Fr.app N1 Nq2
  refine own_run (g' := (mkF m 40 #[.val (.int p0), .val (.int p1), .val (.int p2), .val (.int p3), .val (.int p4), .val (.int v7), .val (.int p1), .val (.int v23), .val (.int (own_f1 (v23.toInt64 + ((p2 >>> ((2 : Int32) &&& 31)) &&& (3 : Int32)).toInt64))), .unset, .unset, .unset, .unset, .unset] [])) (fun _ kt => XS.istore X2.here hx rfl (hb hby at_38) rfl (l' := #[.val (.int p0), .val (.int p1), .val (.int p2), .val (.int p3), .val (.int p4), .val (.int v7), .val (.int p1), .val (.int v23), .val (.int (own_f1 (v23.toInt64 + ((p2 >>> ((2 : Int32) &&& 31)) &&& (3 : Int32)).toInt64))), .unset, .unset, .unset, .unset, .unset]) rfl (kt)) ?_
  obtain ⟨v38, hv38⟩ : ∃ z : Int32, z = (own_f1 (v23.toInt64 + ((p2 >>> ((2 : Int32) &&& 31)) &&& (3 : Int32)).toInt64)) := ⟨_, rfl⟩
  rw [← hv38]
  refine own_run (g' := (mkF m 49 #[.val (.int p0), .val (.int p1), .val (.int p2), .val (.int p3), .val (.int p4), .val (.int v7), .val (.int p1), .val (.int v23), .val (.int v38), .unset, .unset, .unset, .unset, .unset] [(.long ((p2 >>> ((4 : Int32) &&& 31)) &&& (3 : Int32)).toInt64), (.long v38.toInt64)])) (fun _ kt => XS.iload X2.here hx rfl (hb hby at_40) rfl (XS.i2l X2.here hx rfl (hb hby at_42) rfl (XS.iloadN X2.here hx rfl (hb hby at_43) rfl (XS.iconst X2.here hx rfl (hb hby at_44) (XS.ishr X2.here hx rfl (hb hby at_45) rfl (XS.iconst X2.here hx rfl (hb hby at_46) (XS.iand X2.here hx rfl (hb hby at_47) rfl (XS.i2l X2.here hx rfl (hb hby at_48) rfl (kt))))))))) ?_
  refine own_run (g' := (mkF m 50 #[.val (.int p0), .val (.int p1), .val (.int p2), .val (.int p3), .val (.int p4), .val (.int v7), .val (.int p1), .val (.int v23), .val (.int v38), .unset, .unset, .unset, .unset, .unset] [(.long (v38.toInt64 + ((p2 >>> ((4 : Int32) &&& 31)) &&& (3 : Int32)).toInt64))])) (fun _ kt => XS.ladd X2.here hx rfl (hb hby at_49) rfl (kt)) ?_
  refine own_callS X2 hx hZ hown (hw _ (List.mem_of_getElem? (i := 1) rfl)) (hw _ (List.mem_of_getElem? (i := 2) rfl)) (hw _ (List.mem_of_getElem? (i := 3) rfl)) (hw _ (List.mem_of_getElem? (i := 4) rfl)) (by decide) (rm1 l Z a0 hw [] (v38.toInt64 + ((p2 >>> ((4 : Int32) &&& 31)) &&& (3 : Int32)).toInt64) h0 n0) e2 (by decide) (by decide) (by decide) (by decide) (by rw [hml]; rfl) (argsL := [(.long (v38.toInt64 + ((p2 >>> ((4 : Int32) &&& 31)) &&& (3 : Int32)).toInt64))]) (rest := []) (lenOf own_pd0 rfl) rfl (W := 0) (Nat.le_of_eq rfl) (hb hby at_50) ?_
  intro T3 r3 L3 X3 hQ3
  obtain ⟨rfl, Nq3, e3⟩ := hQ3
  have N3 := Fr.app N2 Nq3
  refine own_run (g' := (mkF m 55 #[.val (.int p0), .val (.int p1), .val (.int p2), .val (.int p3), .val (.int p4), .val (.int v7), .val (.int p1), .val (.int v23), .val (.int v38), .val (.int (own_f1 (v38.toInt64 + ((p2 >>> ((4 : Int32) &&& 31)) &&& (3 : Int32)).toInt64))), .unset, .unset, .unset, .unset] [])) (fun _ kt => XS.istore X3.here hx rfl (hb hby at_53) rfl (l' := #[.val (.int p0), .val (.int p1), .val (.int p2), .val (.int p3), .val (.int p4), .val (.int v7), .val (.int p1), .val (.int v23), .val (.int v38), .val (.int (own_f1 (v38.toInt64 + ((p2 >>> ((4 : Int32) &&& 31)) &&& (3 : Int32)).toInt64))), .unset, .unset, .unset, .unset]) rfl (kt)) ?_
  obtain ⟨v53, hv53⟩ : ∃ z : Int32, z = (own_f1 (v38.toInt64 + ((p2 >>> ((4 : Int32) &&& 31)) &&& (3 : Int32)).toInt64)) := ⟨_, rfl⟩
  rw [← hv53]
  refine own_run (g' := (mkF m 65 #[.val (.int p0), .val (.int p1), .val (.int p2), .val (.int p3), .val (.int p4), .val (.int v7), .val (.int p1), .val (.int v23), .val (.int v38), .val (.int v53), .unset, .unset, .unset, .unset] [(.long ((p2 >>> ((6 : Int32) &&& 31)) &&& (3 : Int32)).toInt64), (.long v53.toInt64)])) (fun _ kt => XS.iload X3.here hx rfl (hb hby at_55) rfl (XS.i2l X3.here hx rfl (hb hby at_57) rfl (XS.iloadN X3.here hx rfl (hb hby at_58) rfl (XS.bipush X3.here hx rfl (hb hby at_59) (XS.ishr X3.here hx rfl (hb hby at_61) rfl (XS.iconst X3.here hx rfl (hb hby at_62) (XS.iand X3.here hx rfl (hb hby at_63) rfl (XS.i2l X3.here hx rfl (hb hby at_64) rfl (kt))))))))) ?_
  refine own_run (g' := (mkF m 66 #[.val (.int p0), .val (.int p1), .val (.int p2), .val (.int p3), .val (.int p4), .val (.int v7), .val (.int p1), .val (.int v23), .val (.int v38), .val (.int v53), .unset, .unset, .unset, .unset] [(.long (v53.toInt64 + ((p2 >>> ((6 : Int32) &&& 31)) &&& (3 : Int32)).toInt64))])) (fun _ kt => XS.ladd X3.here hx rfl (hb hby at_65) rfl (kt)) ?_
  refine own_callS X3 hx hZ hown (hw _ (List.mem_of_getElem? (i := 1) rfl)) (hw _ (List.mem_of_getElem? (i := 2) rfl)) (hw _ (List.mem_of_getElem? (i := 3) rfl)) (hw _ (List.mem_of_getElem? (i := 4) rfl)) (by decide) (rm1 l Z a0 hw [] (v53.toInt64 + ((p2 >>> ((6 : Int32) &&& 31)) &&& (3 : Int32)).toInt64) h0 n0) e3 (by decide) (by decide) (by decide) (by decide) (by rw [hml]; rfl) (argsL := [(.long (v53.toInt64 + ((p2 >>> ((6 : Int32) &&& 31)) &&& (3 : Int32)).toInt64))]) (rest := []) (lenOf own_pd0 rfl) rfl (W := 0) (Nat.le_of_eq rfl) (hb hby at_66) ?_
  intro T4 r4 L4 X4 hQ4
  obtain ⟨rfl, Nq4, e4⟩ := hQ4
  have N4 := Fr.app N3 Nq4
  refine own_run (g' := (mkF m 71 #[.val (.int p0), .val (.int p1), .val (.int p2), .val (.int p3), .val (.int p4), .val (.int v7), .val (.int p1), .val (.int v23), .val (.int v38), .val (.int v53), .val (.int (own_f1 (v53.toInt64 + ((p2 >>> ((6 : Int32) &&& 31)) &&& (3 : Int32)).toInt64))), .unset, .unset, .unset] [])) (fun _ kt => XS.istore X4.here hx rfl (hb hby at_69) rfl (l' := #[.val (.int p0), .val (.int p1), .val (.int p2), .val (.int p3), .val (.int p4), .val (.int v7), .val (.int p1), .val (.int v23), .val (.int v38), .val (.int v53), .val (.int (own_f1 (v53.toInt64 + ((p2 >>> ((6 : Int32) &&& 31)) &&& (3 : Int32)).toInt64))), .unset, .unset, .unset]) rfl (kt)) ?_
  obtain ⟨v69, hv69⟩ : ∃ z : Int32, z = (own_f1 (v53.toInt64 + ((p2 >>> ((6 : Int32) &&& 31)) &&& (3 : Int32)).toInt64)) := ⟨_, rfl⟩
  rw [← hv69]
  refine own_run (g' := (mkF m 75 #[.val (.int p0), .val (.int p1), .val (.int p2), .val (.int p3), .val (.int p4), .val (.int v7), .val (.int p1), .val (.int v23), .val (.int v38), .val (.int v53), .val (.int v69), .unset, .unset, .unset] [(.int (p4 &&& (1 : Int32)))])) (fun _ kt => XS.iload X4.here hx rfl (hb hby at_71) rfl (XS.iconst X4.here hx rfl (hb hby at_73) (XS.iand X4.here hx rfl (hb hby at_74) rfl (kt)))) ?_
  have J5 : ∀ (T5 : State) (L5 : List Loc) (v5_11 : Int32), Stand p l e room_1 s m args below meth c T5 L5 0 0 → Fr n0 L5 → T5.heap = h0 → v5_11 = (if (p4 &&& (1 : Int32)) = (0 : Int32) then p3 else (own_f1 (p1.toInt64 + (p3 % (8 : Int32)).toInt64))) →  own_Run p e below s room_1.cells room_1.slots (Q0 h0 n0) T5 (mkF m 97 #[.val (.int p0), .val (.int p1), .val (.int p2), .val (.int p3), .val (.int p4), .val (.int v7), .val (.int p1), .val (.int v23), .val (.int v38), .val (.int v53), .val (.int v69), .val (.int v5_11), .unset, .unset] []) := by
    intro T5 L5 v5_11 X5 N5 e5 hv5_11
    have hn6 : v7 = 0 ∨ v7 = 1 ∨ v7 = 2 ∨ v7 = 3 ∨ v7 = 4 ∨ v7 = 5 := by rw [hv7]; exact own_n6 _
    have hle1 : p1.toInt ≤ v23.toInt := by rw [hv23]; exact own_ge _ _
    have hle2 : v23.toInt ≤ v38.toInt := by rw [hv38]; exact own_ge _ _
    have hle3 : v38.toInt ≤ v53.toInt := by rw [hv53]; exact own_ge _ _
    have hle4 : v53.toInt ≤ v69.toInt := by rw [hv69]; exact own_ge _ _
    refine own_new X5 hx hZ hown (hw _ (List.mem_of_getElem? (i := 7) rfl)) (hw _ (List.mem_of_getElem? (i := 8) rfl)) (hw _ (List.mem_of_getElem? (i := 9) rfl)) e5 (hb hby at_97) (by decide) (by decide) ?_
    intro T6 h6 b6 qq6 X6 e6 E6 K6 D6
    have g_b6 : n0 ≤ b6 := by rw [qq6]; exact Z0
    have Z6 : n0 ≤ h6.size := Nat.le_trans Z0 E6.1
    have F6_from : Fld Z h6 b6 "com/example/urd/urd/causes/Edges" "from" "[I" .null := D6 (Or.inl (hw _ (List.mem_of_getElem? (i := 18) rfl))) (ty := (.array .int)) (by decide)
    have F6_event : Fld Z h6 b6 "com/example/urd/urd/causes/Edges" "event" "[I" .null := D6 (Or.inl (hw _ (List.mem_of_getElem? (i := 20) rfl))) (ty := (.array .int)) (by decide)
    have F6_to : Fld Z h6 b6 "com/example/urd/urd/causes/Edges" "to" "[I" .null := D6 (Or.inl (hw _ (List.mem_of_getElem? (i := 22) rfl))) (ty := (.array .int)) (by decide)
    have F6_size : Fld Z h6 b6 "com/example/urd/urd/causes/Edges" "size" "I" (.int (0 : Int32)) := D6 (Or.inl (hw _ (List.mem_of_getElem? (i := 32) rfl))) (ty := .int) (by decide)
    refine own_run (g' := (mkF m 101 #[.val (.int p0), .val (.int p1), .val (.int p2), .val (.int p3), .val (.int p4), .val (.int v7), .val (.int p1), .val (.int v23), .val (.int v38), .val (.int v53), .val (.int v69), .val (.int v5_11), .unset, .unset] [(.ref b6), (.ref b6)])) (fun _ kt => XS.dup X6.here hx rfl (hb hby at_100) rfl rfl (kt)) ?_
    refine own_callI (b := b6) X6 hx hZ hown rfl (hw _ (List.mem_of_getElem? (i := 10) rfl)) (hw _ (List.mem_of_getElem? (i := 11) rfl)) (hw _ (List.mem_of_getElem? (i := 9) rfl)) (hw _ (List.mem_of_getElem? (i := 12) rfl)) (by decide) (rm2 l Z a0 hw [] b6 h6 n0 Z6 K6 F6_from F6_event F6_to F6_size g_b6) e6 (by decide) (by decide) (by decide) (by decide) (by rw [hml]; rfl) (argsL := []) (rest := [(.ref b6)]) (lenOf own_pd1 rfl) rfl (W := 1) (Nat.le_of_eq rfl) (hb hby at_101) ?_
    intro T7 r7 L7 X7 hQ7
    obtain ⟨rfl, Nq7, Kc7, x7, y7, z7, g_x7, g_y7, g_z7, ne_b6_x7, ne_b6_y7, ne_b6_z7, ne_x7_y7, ne_x7_z7, ne_y7_z7, F7_from, F7_event, F7_to, F7_size, A7_from, A7_event, A7_to⟩ := hQ7
    have N7 := Fr.app N5 Nq7
    replace K6 := K6.keep Kc7
    have Z7 : n0 ≤ T7.heap.size := Nat.le_trans Z6 Kc7.1
    refine own_run (g' := (mkF m 108 #[.val (.int p0), .val (.int p1), .val (.int p2), .val (.int p3), .val (.int p4), .val (.int v7), .val (.int p1), .val (.int v23), .val (.int v38), .val (.int v53), .val (.int v69), .val (.int v5_11), .val (.ref b6), .unset] [(.int v7)])) (fun _ kt => XS.astore X7.here hx rfl (hb hby at_104) rfl rfl (l' := #[.val (.int p0), .val (.int p1), .val (.int p2), .val (.int p3), .val (.int p4), .val (.int v7), .val (.int p1), .val (.int v23), .val (.int v38), .val (.int v53), .val (.int v69), .val (.int v5_11), .val (.ref b6), .unset]) rfl (XS.iload X7.here hx rfl (hb hby at_106) rfl (kt))) ?_
    have J8 : ∀ (T8 : State) (L8 : List Loc) (h8 : Heap) (v14_f : Int32) (xs16 : List Int32) (xs18 : List Int32) (xs20 : List Int32), Stand p l e room_1 s m args below meth c T8 L8 4 196 → Fr n0 L8 → T8.heap = h8 → n0 ≤ h8.size → Exa Z h8 b6 "com/example/urd/urd/causes/Edges" → Fld Z h8 b6 "com/example/urd/urd/causes/Edges" "from" "[I" (.ref x7) → Fld Z h8 b6 "com/example/urd/urd/causes/Edges" "event" "[I" (.ref y7) → Fld Z h8 b6 "com/example/urd/urd/causes/Edges" "to" "[I" (.ref z7) → Fld Z h8 b6 "com/example/urd/urd/causes/Edges" "size" "I" (.int v14_f) → own_A Z h8 x7 .int (64 : Int32) xs16 → own_A Z h8 y7 .int (64 : Int32) xs18 → own_A Z h8 z7 .int (64 : Int32) xs20 → v14_f = (if (0 : Int32) < v7 then ((0 : Int32) + (1 : Int32)) else (0 : Int32)) → xs16 = (if (0 : Int32) < v7 then ((List.replicate (64 : Int32).toNatClampNeg 0).set (0 : Int32).toNatClampNeg p1) else (List.replicate (64 : Int32).toNatClampNeg 0)) → xs18 = (if (0 : Int32) < v7 then ((List.replicate (64 : Int32).toNatClampNeg 0).set (0 : Int32).toNatClampNeg (0 : Int32)) else (List.replicate (64 : Int32).toNatClampNeg 0)) → xs20 = (if (0 : Int32) < v7 then ((List.replicate (64 : Int32).toNatClampNeg 0).set (0 : Int32).toNatClampNeg (-1 : Int32)) else (List.replicate (64 : Int32).toNatClampNeg 0)) →  own_Run p e below s room_1.cells room_1.slots (Q0 h0 n0) T8 (mkF m 120 #[.val (.int p0), .val (.int p1), .val (.int p2), .val (.int p3), .val (.int p4), .val (.int v7), .val (.int p1), .val (.int v23), .val (.int v38), .val (.int v53), .val (.int v69), .val (.int v5_11), .val (.ref b6), .unset] []) := by
      intro T8 L8 h8 v14_f xs16 xs18 xs20 X8 N8 e8 Zh8 K9 F10 F11 F12 F13 A15 A17 A19 hv14_f hxs16 hxs18 hxs20
      refine own_run (g' := (mkF m 123 #[.val (.int p0), .val (.int p1), .val (.int p2), .val (.int p3), .val (.int p4), .val (.int v7), .val (.int p1), .val (.int v23), .val (.int v38), .val (.int v53), .val (.int v69), .val (.int v5_11), .val (.ref b6), .unset] [(.int (1 : Int32)), (.int v7)])) (fun _ kt => XS.iload X8.here hx rfl (hb hby at_120) rfl (XS.iconst X8.here hx rfl (hb hby at_122) (kt))) ?_
      have J21 : ∀ (T21 : State) (L21 : List Loc) (h21 : Heap) (v27_f : Int32) (xs29 : List Int32) (xs31 : List Int32) (xs33 : List Int32), Stand p l e room_1 s m args below meth c T21 L21 4 196 → Fr n0 L21 → T21.heap = h21 → n0 ≤ h21.size → Exa Z h21 b6 "com/example/urd/urd/causes/Edges" → Fld Z h21 b6 "com/example/urd/urd/causes/Edges" "from" "[I" (.ref x7) → Fld Z h21 b6 "com/example/urd/urd/causes/Edges" "event" "[I" (.ref y7) → Fld Z h21 b6 "com/example/urd/urd/causes/Edges" "to" "[I" (.ref z7) → Fld Z h21 b6 "com/example/urd/urd/causes/Edges" "size" "I" (.int v27_f) → own_A Z h21 x7 .int (64 : Int32) xs29 → own_A Z h21 y7 .int (64 : Int32) xs31 → own_A Z h21 z7 .int (64 : Int32) xs33 → v27_f = (if (1 : Int32) < v7 then (v14_f + (1 : Int32)) else v14_f) → xs29 = (if (1 : Int32) < v7 then (xs16.set v14_f.toNatClampNeg v23) else xs16) → xs31 = (if (1 : Int32) < v7 then (xs18.set v14_f.toNatClampNeg (1 : Int32)) else xs18) → xs33 = (if (1 : Int32) < v7 then (xs20.set v14_f.toNatClampNeg (0 : Int32)) else xs20) →  own_Run p e below s room_1.cells room_1.slots (Q0 h0 n0) T21 (mkF m 135 #[.val (.int p0), .val (.int p1), .val (.int p2), .val (.int p3), .val (.int p4), .val (.int v7), .val (.int p1), .val (.int v23), .val (.int v38), .val (.int v53), .val (.int v69), .val (.int v5_11), .val (.ref b6), .unset] []) := by
        intro T21 L21 h21 v27_f xs29 xs31 xs33 X21 N21 e21 Zh21 K22 F23 F24 F25 F26 A28 A30 A32 hv27_f hxs29 hxs31 hxs33
        refine own_run (g' := (mkF m 138 #[.val (.int p0), .val (.int p1), .val (.int p2), .val (.int p3), .val (.int p4), .val (.int v7), .val (.int p1), .val (.int v23), .val (.int v38), .val (.int v53), .val (.int v69), .val (.int v5_11), .val (.ref b6), .unset] [(.int (2 : Int32)), (.int v7)])) (fun _ kt => XS.iload X21.here hx rfl (hb hby at_135) rfl (XS.iconst X21.here hx rfl (hb hby at_137) (kt))) ?_
        have J34 : ∀ (T34 : State) (L34 : List Loc) (h34 : Heap) (v40_f : Int32) (xs42 : List Int32) (xs44 : List Int32) (xs46 : List Int32), Stand p l e room_1 s m args below meth c T34 L34 4 196 → Fr n0 L34 → T34.heap = h34 → n0 ≤ h34.size → Exa Z h34 b6 "com/example/urd/urd/causes/Edges" → Fld Z h34 b6 "com/example/urd/urd/causes/Edges" "from" "[I" (.ref x7) → Fld Z h34 b6 "com/example/urd/urd/causes/Edges" "event" "[I" (.ref y7) → Fld Z h34 b6 "com/example/urd/urd/causes/Edges" "to" "[I" (.ref z7) → Fld Z h34 b6 "com/example/urd/urd/causes/Edges" "size" "I" (.int v40_f) → own_A Z h34 x7 .int (64 : Int32) xs42 → own_A Z h34 y7 .int (64 : Int32) xs44 → own_A Z h34 z7 .int (64 : Int32) xs46 → v40_f = (if (2 : Int32) < v7 then (v27_f + (1 : Int32)) else v27_f) → xs42 = (if (2 : Int32) < v7 then (xs29.set v27_f.toNatClampNeg v38) else xs29) → xs44 = (if (2 : Int32) < v7 then (xs31.set v27_f.toNatClampNeg (2 : Int32)) else xs31) → xs46 = (if (2 : Int32) < v7 then (xs33.set v27_f.toNatClampNeg (-1 : Int32)) else xs33) →  own_Run p e below s room_1.cells room_1.slots (Q0 h0 n0) T34 (mkF m 150 #[.val (.int p0), .val (.int p1), .val (.int p2), .val (.int p3), .val (.int p4), .val (.int v7), .val (.int p1), .val (.int v23), .val (.int v38), .val (.int v53), .val (.int v69), .val (.int v5_11), .val (.ref b6), .unset] []) := by
          intro T34 L34 h34 v40_f xs42 xs44 xs46 X34 N34 e34 Zh34 K35 F36 F37 F38 F39 A41 A43 A45 hv40_f hxs42 hxs44 hxs46
          refine own_run (g' := (mkF m 153 #[.val (.int p0), .val (.int p1), .val (.int p2), .val (.int p3), .val (.int p4), .val (.int v7), .val (.int p1), .val (.int v23), .val (.int v38), .val (.int v53), .val (.int v69), .val (.int v5_11), .val (.ref b6), .unset] [(.int (3 : Int32)), (.int v7)])) (fun _ kt => XS.iload X34.here hx rfl (hb hby at_150) rfl (XS.iconst X34.here hx rfl (hb hby at_152) (kt))) ?_
          have J47 : ∀ (T47 : State) (L47 : List Loc) (h47 : Heap) (v53_f : Int32) (xs55 : List Int32) (xs57 : List Int32) (xs59 : List Int32), Stand p l e room_1 s m args below meth c T47 L47 4 196 → Fr n0 L47 → T47.heap = h47 → n0 ≤ h47.size → Exa Z h47 b6 "com/example/urd/urd/causes/Edges" → Fld Z h47 b6 "com/example/urd/urd/causes/Edges" "from" "[I" (.ref x7) → Fld Z h47 b6 "com/example/urd/urd/causes/Edges" "event" "[I" (.ref y7) → Fld Z h47 b6 "com/example/urd/urd/causes/Edges" "to" "[I" (.ref z7) → Fld Z h47 b6 "com/example/urd/urd/causes/Edges" "size" "I" (.int v53_f) → own_A Z h47 x7 .int (64 : Int32) xs55 → own_A Z h47 y7 .int (64 : Int32) xs57 → own_A Z h47 z7 .int (64 : Int32) xs59 → v53_f = (if (3 : Int32) < v7 then (v40_f + (1 : Int32)) else v40_f) → xs55 = (if (3 : Int32) < v7 then (xs42.set v40_f.toNatClampNeg v53) else xs42) → xs57 = (if (3 : Int32) < v7 then (xs44.set v40_f.toNatClampNeg (3 : Int32)) else xs44) → xs59 = (if (3 : Int32) < v7 then (xs46.set v40_f.toNatClampNeg (1 : Int32)) else xs46) →  own_Run p e below s room_1.cells room_1.slots (Q0 h0 n0) T47 (mkF m 165 #[.val (.int p0), .val (.int p1), .val (.int p2), .val (.int p3), .val (.int p4), .val (.int v7), .val (.int p1), .val (.int v23), .val (.int v38), .val (.int v53), .val (.int v69), .val (.int v5_11), .val (.ref b6), .unset] []) := by
            intro T47 L47 h47 v53_f xs55 xs57 xs59 X47 N47 e47 Zh47 K48 F49 F50 F51 F52 A54 A56 A58 hv53_f hxs55 hxs57 hxs59
            refine own_run (g' := (mkF m 168 #[.val (.int p0), .val (.int p1), .val (.int p2), .val (.int p3), .val (.int p4), .val (.int v7), .val (.int p1), .val (.int v23), .val (.int v38), .val (.int v53), .val (.int v69), .val (.int v5_11), .val (.ref b6), .unset] [(.int (4 : Int32)), (.int v7)])) (fun _ kt => XS.iload X47.here hx rfl (hb hby at_165) rfl (XS.iconst X47.here hx rfl (hb hby at_167) (kt))) ?_
            have J60 : ∀ (T60 : State) (L60 : List Loc) (h60 : Heap) (v66_f : Int32) (xs68 : List Int32) (xs70 : List Int32) (xs72 : List Int32), Stand p l e room_1 s m args below meth c T60 L60 4 196 → Fr n0 L60 → T60.heap = h60 → n0 ≤ h60.size → Exa Z h60 b6 "com/example/urd/urd/causes/Edges" → Fld Z h60 b6 "com/example/urd/urd/causes/Edges" "from" "[I" (.ref x7) → Fld Z h60 b6 "com/example/urd/urd/causes/Edges" "event" "[I" (.ref y7) → Fld Z h60 b6 "com/example/urd/urd/causes/Edges" "to" "[I" (.ref z7) → Fld Z h60 b6 "com/example/urd/urd/causes/Edges" "size" "I" (.int v66_f) → own_A Z h60 x7 .int (64 : Int32) xs68 → own_A Z h60 y7 .int (64 : Int32) xs70 → own_A Z h60 z7 .int (64 : Int32) xs72 → v66_f = (if (4 : Int32) < v7 then (v53_f + (1 : Int32)) else v53_f) → xs68 = (if (4 : Int32) < v7 then (xs55.set v53_f.toNatClampNeg v69) else xs55) → xs70 = (if (4 : Int32) < v7 then (xs57.set v53_f.toNatClampNeg (4 : Int32)) else xs57) → xs72 = (if (4 : Int32) < v7 then (xs59.set v53_f.toNatClampNeg (-1 : Int32)) else xs59) →  own_Run p e below s room_1.cells room_1.slots (Q0 h0 n0) T60 (mkF m 180 #[.val (.int p0), .val (.int p1), .val (.int p2), .val (.int p3), .val (.int p4), .val (.int v7), .val (.int p1), .val (.int v23), .val (.int v38), .val (.int v53), .val (.int v69), .val (.int v5_11), .val (.ref b6), .unset] []) := by
              intro T60 L60 h60 v66_f xs68 xs70 xs72 X60 N60 e60 Zh60 K61 F62 F63 F64 F65 A67 A69 A71 hv66_f hxs68 hxs70 hxs72
              refine own_run (g' := (mkF m 182 #[.val (.int p0), .val (.int p1), .val (.int p2), .val (.int p3), .val (.int p4), .val (.int v7), .val (.int p1), .val (.int v23), .val (.int v38), .val (.int v53), .val (.int v69), .val (.int v5_11), .val (.ref b6), .unset] [(.int v7)])) (fun _ kt => XS.iload X60.here hx rfl (hb hby at_180) rfl (kt)) ?_
              have J73 : ∀ (v73_s0 : Int32), v73_s0 = (if (0 : Int32) < v7 then (1 : Int32) else (0 : Int32)) →  own_Run p e below s room_1.cells room_1.slots (Q0 h0 n0) T60 (mkF m 190 #[.val (.int p0), .val (.int p1), .val (.int p2), .val (.int p3), .val (.int p4), .val (.int v7), .val (.int p1), .val (.int v23), .val (.int v38), .val (.int v53), .val (.int v69), .val (.int v5_11), .val (.ref b6), .unset] [(.int v73_s0)]) := by
                intro v73_s0 hv73_s0
                refine own_run (g' := (mkF m 194 #[.val (.int p0), .val (.int p1), .val (.int p2), .val (.int p3), .val (.int p4), .val (.int v7), .val (.int p1), .val (.int v23), .val (.int v38), .val (.int v53), .val (.int v69), .val (.int v5_11), .val (.ref b6), .unset] [(.int v5_11), (.int p1), (.int v73_s0)])) (fun _ kt => XS.iload X60.here hx rfl (hb hby at_190) rfl (XS.iload X60.here hx rfl (hb hby at_192) rfl (kt))) ?_
                refine own_callS X60 hx hZ hown (hw _ (List.mem_of_getElem? (i := 23) rfl)) (hw _ (List.mem_of_getElem? (i := 24) rfl)) (hw _ (List.mem_of_getElem? (i := 3) rfl)) (hw _ (List.mem_of_getElem? (i := 25) rfl)) (by decide) (rm4 l Z a0 hw [] v73_s0 p1 v5_11 h60 n0) e60 (by decide) (by decide) (by decide) (by decide) (by rw [hml]; rfl) (argsL := [(.int v73_s0), (.int p1), (.int v5_11)]) (rest := []) (lenOf own_pd3 rfl) rfl (W := 0) (Nat.le_of_eq rfl) (hb hby at_194) ?_
                intro T74 r74 L74 X74 hQ74
                obtain ⟨rfl, Nq74, e74⟩ := hQ74
                have N74 := Fr.app N60 Nq74
                refine own_run (g' := (mkF m 200 #[.val (.int p0), .val (.int p1), .val (.int p2), .val (.int p3), .val (.int p4), .val (.int v7), .val (.int p1), .val (.int v23), .val (.int v38), .val (.int v53), .val (.int v69), .val (.int v5_11), .val (.ref b6), .unset] [(.int (1 : Int32)), (.int v7), (.int (own_f4 v73_s0 p1 v5_11))])) (fun _ kt => XS.iload X74.here hx rfl (hb hby at_197) rfl (XS.iconst X74.here hx rfl (hb hby at_199) (kt))) ?_
                have J75 : ∀ (v75_s0 : Int32), v75_s0 = (if (1 : Int32) < v7 then (1 : Int32) else (0 : Int32)) →  own_Run p e below s room_1.cells room_1.slots (Q0 h0 n0) T74 (mkF m 208 #[.val (.int p0), .val (.int p1), .val (.int p2), .val (.int p3), .val (.int p4), .val (.int v7), .val (.int p1), .val (.int v23), .val (.int v38), .val (.int v53), .val (.int v69), .val (.int v5_11), .val (.ref b6), .unset] [(.int v75_s0), (.int (own_f4 v73_s0 p1 v5_11))]) := by
                  intro v75_s0 hv75_s0
                  refine own_run (g' := (mkF m 212 #[.val (.int p0), .val (.int p1), .val (.int p2), .val (.int p3), .val (.int p4), .val (.int v7), .val (.int p1), .val (.int v23), .val (.int v38), .val (.int v53), .val (.int v69), .val (.int v5_11), .val (.ref b6), .unset] [(.int v5_11), (.int v23), (.int v75_s0), (.int (own_f4 v73_s0 p1 v5_11))])) (fun _ kt => XS.iload X74.here hx rfl (hb hby at_208) rfl (XS.iload X74.here hx rfl (hb hby at_210) rfl (kt))) ?_
                  refine own_callS X74 hx hZ hown (hw _ (List.mem_of_getElem? (i := 23) rfl)) (hw _ (List.mem_of_getElem? (i := 24) rfl)) (hw _ (List.mem_of_getElem? (i := 3) rfl)) (hw _ (List.mem_of_getElem? (i := 25) rfl)) (by decide) (rm4 l Z a0 hw [] v75_s0 v23 v5_11 h60 n0) e74 (by decide) (by decide) (by decide) (by decide) (by rw [hml]; rfl) (argsL := [(.int v75_s0), (.int v23), (.int v5_11)]) (rest := [(.int (own_f4 v73_s0 p1 v5_11))]) (lenOf own_pd3 rfl) rfl (W := 1) (Nat.le_of_eq rfl) (hb hby at_212) ?_
                  intro T76 r76 L76 X76 hQ76
                  obtain ⟨rfl, Nq76, e76⟩ := hQ76
                  have N76 := Fr.app N74 Nq76
                  refine own_run (g' := (mkF m 219 #[.val (.int p0), .val (.int p1), .val (.int p2), .val (.int p3), .val (.int p4), .val (.int v7), .val (.int p1), .val (.int v23), .val (.int v38), .val (.int v53), .val (.int v69), .val (.int v5_11), .val (.ref b6), .unset] [(.int (2 : Int32)), (.int v7), (.int ((own_f4 v73_s0 p1 v5_11) + (own_f4 v75_s0 v23 v5_11)))])) (fun _ kt => XS.iadd X76.here hx rfl (hb hby at_215) rfl (XS.iload X76.here hx rfl (hb hby at_216) rfl (XS.iconst X76.here hx rfl (hb hby at_218) (kt)))) ?_
                  have J77 : ∀ (v77_s0 : Int32), v77_s0 = (if (2 : Int32) < v7 then (1 : Int32) else (0 : Int32)) →  own_Run p e below s room_1.cells room_1.slots (Q0 h0 n0) T76 (mkF m 227 #[.val (.int p0), .val (.int p1), .val (.int p2), .val (.int p3), .val (.int p4), .val (.int v7), .val (.int p1), .val (.int v23), .val (.int v38), .val (.int v53), .val (.int v69), .val (.int v5_11), .val (.ref b6), .unset] [(.int v77_s0), (.int ((own_f4 v73_s0 p1 v5_11) + (own_f4 v75_s0 v23 v5_11)))]) := by
                    intro v77_s0 hv77_s0
                    refine own_run (g' := (mkF m 231 #[.val (.int p0), .val (.int p1), .val (.int p2), .val (.int p3), .val (.int p4), .val (.int v7), .val (.int p1), .val (.int v23), .val (.int v38), .val (.int v53), .val (.int v69), .val (.int v5_11), .val (.ref b6), .unset] [(.int v5_11), (.int v38), (.int v77_s0), (.int ((own_f4 v73_s0 p1 v5_11) + (own_f4 v75_s0 v23 v5_11)))])) (fun _ kt => XS.iload X76.here hx rfl (hb hby at_227) rfl (XS.iload X76.here hx rfl (hb hby at_229) rfl (kt))) ?_
                    refine own_callS X76 hx hZ hown (hw _ (List.mem_of_getElem? (i := 23) rfl)) (hw _ (List.mem_of_getElem? (i := 24) rfl)) (hw _ (List.mem_of_getElem? (i := 3) rfl)) (hw _ (List.mem_of_getElem? (i := 25) rfl)) (by decide) (rm4 l Z a0 hw [] v77_s0 v38 v5_11 h60 n0) e76 (by decide) (by decide) (by decide) (by decide) (by rw [hml]; rfl) (argsL := [(.int v77_s0), (.int v38), (.int v5_11)]) (rest := [(.int ((own_f4 v73_s0 p1 v5_11) + (own_f4 v75_s0 v23 v5_11)))]) (lenOf own_pd3 rfl) rfl (W := 1) (Nat.le_of_eq rfl) (hb hby at_231) ?_
                    intro T78 r78 L78 X78 hQ78
                    obtain ⟨rfl, Nq78, e78⟩ := hQ78
                    have N78 := Fr.app N76 Nq78
                    refine own_run (g' := (mkF m 238 #[.val (.int p0), .val (.int p1), .val (.int p2), .val (.int p3), .val (.int p4), .val (.int v7), .val (.int p1), .val (.int v23), .val (.int v38), .val (.int v53), .val (.int v69), .val (.int v5_11), .val (.ref b6), .unset] [(.int (3 : Int32)), (.int v7), (.int (((own_f4 v73_s0 p1 v5_11) + (own_f4 v75_s0 v23 v5_11)) + (own_f4 v77_s0 v38 v5_11)))])) (fun _ kt => XS.iadd X78.here hx rfl (hb hby at_234) rfl (XS.iload X78.here hx rfl (hb hby at_235) rfl (XS.iconst X78.here hx rfl (hb hby at_237) (kt)))) ?_
                    have J79 : ∀ (v79_s0 : Int32), v79_s0 = (if (3 : Int32) < v7 then (1 : Int32) else (0 : Int32)) →  own_Run p e below s room_1.cells room_1.slots (Q0 h0 n0) T78 (mkF m 246 #[.val (.int p0), .val (.int p1), .val (.int p2), .val (.int p3), .val (.int p4), .val (.int v7), .val (.int p1), .val (.int v23), .val (.int v38), .val (.int v53), .val (.int v69), .val (.int v5_11), .val (.ref b6), .unset] [(.int v79_s0), (.int (((own_f4 v73_s0 p1 v5_11) + (own_f4 v75_s0 v23 v5_11)) + (own_f4 v77_s0 v38 v5_11)))]) := by
                      intro v79_s0 hv79_s0
                      refine own_run (g' := (mkF m 250 #[.val (.int p0), .val (.int p1), .val (.int p2), .val (.int p3), .val (.int p4), .val (.int v7), .val (.int p1), .val (.int v23), .val (.int v38), .val (.int v53), .val (.int v69), .val (.int v5_11), .val (.ref b6), .unset] [(.int v5_11), (.int v53), (.int v79_s0), (.int (((own_f4 v73_s0 p1 v5_11) + (own_f4 v75_s0 v23 v5_11)) + (own_f4 v77_s0 v38 v5_11)))])) (fun _ kt => XS.iload X78.here hx rfl (hb hby at_246) rfl (XS.iload X78.here hx rfl (hb hby at_248) rfl (kt))) ?_
                      refine own_callS X78 hx hZ hown (hw _ (List.mem_of_getElem? (i := 23) rfl)) (hw _ (List.mem_of_getElem? (i := 24) rfl)) (hw _ (List.mem_of_getElem? (i := 3) rfl)) (hw _ (List.mem_of_getElem? (i := 25) rfl)) (by decide) (rm4 l Z a0 hw [] v79_s0 v53 v5_11 h60 n0) e78 (by decide) (by decide) (by decide) (by decide) (by rw [hml]; rfl) (argsL := [(.int v79_s0), (.int v53), (.int v5_11)]) (rest := [(.int (((own_f4 v73_s0 p1 v5_11) + (own_f4 v75_s0 v23 v5_11)) + (own_f4 v77_s0 v38 v5_11)))]) (lenOf own_pd3 rfl) rfl (W := 1) (Nat.le_of_eq rfl) (hb hby at_250) ?_
                      intro T80 r80 L80 X80 hQ80
                      obtain ⟨rfl, Nq80, e80⟩ := hQ80
                      have N80 := Fr.app N78 Nq80
                      refine own_run (g' := (mkF m 257 #[.val (.int p0), .val (.int p1), .val (.int p2), .val (.int p3), .val (.int p4), .val (.int v7), .val (.int p1), .val (.int v23), .val (.int v38), .val (.int v53), .val (.int v69), .val (.int v5_11), .val (.ref b6), .unset] [(.int (4 : Int32)), (.int v7), (.int ((((own_f4 v73_s0 p1 v5_11) + (own_f4 v75_s0 v23 v5_11)) + (own_f4 v77_s0 v38 v5_11)) + (own_f4 v79_s0 v53 v5_11)))])) (fun _ kt => XS.iadd X80.here hx rfl (hb hby at_253) rfl (XS.iload X80.here hx rfl (hb hby at_254) rfl (XS.iconst X80.here hx rfl (hb hby at_256) (kt)))) ?_
                      have J81 : ∀ (v81_s0 : Int32), v81_s0 = (if (4 : Int32) < v7 then (1 : Int32) else (0 : Int32)) →  own_Run p e below s room_1.cells room_1.slots (Q0 h0 n0) T80 (mkF m 265 #[.val (.int p0), .val (.int p1), .val (.int p2), .val (.int p3), .val (.int p4), .val (.int v7), .val (.int p1), .val (.int v23), .val (.int v38), .val (.int v53), .val (.int v69), .val (.int v5_11), .val (.ref b6), .unset] [(.int v81_s0), (.int ((((own_f4 v73_s0 p1 v5_11) + (own_f4 v75_s0 v23 v5_11)) + (own_f4 v77_s0 v38 v5_11)) + (own_f4 v79_s0 v53 v5_11)))]) := by
                        intro v81_s0 hv81_s0
                        refine own_run (g' := (mkF m 269 #[.val (.int p0), .val (.int p1), .val (.int p2), .val (.int p3), .val (.int p4), .val (.int v7), .val (.int p1), .val (.int v23), .val (.int v38), .val (.int v53), .val (.int v69), .val (.int v5_11), .val (.ref b6), .unset] [(.int v5_11), (.int v69), (.int v81_s0), (.int ((((own_f4 v73_s0 p1 v5_11) + (own_f4 v75_s0 v23 v5_11)) + (own_f4 v77_s0 v38 v5_11)) + (own_f4 v79_s0 v53 v5_11)))])) (fun _ kt => XS.iload X80.here hx rfl (hb hby at_265) rfl (XS.iload X80.here hx rfl (hb hby at_267) rfl (kt))) ?_
                        refine own_callS X80 hx hZ hown (hw _ (List.mem_of_getElem? (i := 23) rfl)) (hw _ (List.mem_of_getElem? (i := 24) rfl)) (hw _ (List.mem_of_getElem? (i := 3) rfl)) (hw _ (List.mem_of_getElem? (i := 25) rfl)) (by decide) (rm4 l Z a0 hw [] v81_s0 v69 v5_11 h60 n0) e80 (by decide) (by decide) (by decide) (by decide) (by rw [hml]; rfl) (argsL := [(.int v81_s0), (.int v69), (.int v5_11)]) (rest := [(.int ((((own_f4 v73_s0 p1 v5_11) + (own_f4 v75_s0 v23 v5_11)) + (own_f4 v77_s0 v38 v5_11)) + (own_f4 v79_s0 v53 v5_11)))]) (lenOf own_pd3 rfl) rfl (W := 1) (Nat.le_of_eq rfl) (hb hby at_269) ?_
                        intro T82 r82 L82 X82 hQ82
                        obtain ⟨rfl, Nq82, e82⟩ := hQ82
                        have N82 := Fr.app N80 Nq82
                        refine own_run (g' := (mkF m 275 #[.val (.int p0), .val (.int p1), .val (.int p2), .val (.int p3), .val (.int p4), .val (.int v7), .val (.int p1), .val (.int v23), .val (.int v38), .val (.int v53), .val (.int v69), .val (.int v5_11), .val (.ref b6), .val (.int (((((own_f4 v73_s0 p1 v5_11) + (own_f4 v75_s0 v23 v5_11)) + (own_f4 v77_s0 v38 v5_11)) + (own_f4 v79_s0 v53 v5_11)) + (own_f4 v81_s0 v69 v5_11)))] [])) (fun _ kt => XS.iadd X82.here hx rfl (hb hby at_272) rfl (XS.istore X82.here hx rfl (hb hby at_273) rfl (l' := #[.val (.int p0), .val (.int p1), .val (.int p2), .val (.int p3), .val (.int p4), .val (.int v7), .val (.int p1), .val (.int v23), .val (.int v38), .val (.int v53), .val (.int v69), .val (.int v5_11), .val (.ref b6), .val (.int (((((own_f4 v73_s0 p1 v5_11) + (own_f4 v75_s0 v23 v5_11)) + (own_f4 v77_s0 v38 v5_11)) + (own_f4 v79_s0 v53 v5_11)) + (own_f4 v81_s0 v69 v5_11)))]) rfl (kt))) ?_
                        obtain ⟨v273, hv273⟩ : ∃ z : Int32, z = (((((own_f4 v73_s0 p1 v5_11) + (own_f4 v75_s0 v23 v5_11)) + (own_f4 v77_s0 v38 v5_11)) + (own_f4 v79_s0 v53 v5_11)) + (own_f4 v81_s0 v69 v5_11)) := ⟨_, rfl⟩
                        rw [← hv273]
                        refine own_run (g' := (mkF m 279 #[.val (.int p0), .val (.int p1), .val (.int p2), .val (.int p3), .val (.int p4), .val (.int v7), .val (.int p1), .val (.int v23), .val (.int v38), .val (.int v53), .val (.int v69), .val (.int v5_11), .val (.ref b6), .val (.int v273)] [(.int v5_11), (.ref b6)])) (fun _ kt => XS.aload X82.here hx rfl (hb hby at_275) rfl rfl (XS.iload X82.here hx rfl (hb hby at_277) rfl (kt))) ?_
                        have hsz : ¬ v66_f < 0 ∧ v66_f < (64 : Int32) := by
                          rcases hn6 with h | h | h | h | h | h
                          · rw [(own_end0 v7 p1 v23 v38 v53 v69 v14_f v27_f v40_f v53_f v66_f _ xs16 xs29 xs42 xs55 xs68 hv14_f hxs16 hv27_f hxs29 hv40_f hxs42 hv53_f hxs55 hv66_f hxs68 h).1]; decide
                          · rw [(own_end1 v7 p1 v23 v38 v53 v69 v14_f v27_f v40_f v53_f v66_f _ xs16 xs29 xs42 xs55 xs68 hv14_f hxs16 hv27_f hxs29 hv40_f hxs42 hv53_f hxs55 hv66_f hxs68 h).1]; decide
                          · rw [(own_end2 v7 p1 v23 v38 v53 v69 v14_f v27_f v40_f v53_f v66_f _ xs16 xs29 xs42 xs55 xs68 hv14_f hxs16 hv27_f hxs29 hv40_f hxs42 hv53_f hxs55 hv66_f hxs68 h).1]; decide
                          · rw [(own_end3 v7 p1 v23 v38 v53 v69 v14_f v27_f v40_f v53_f v66_f _ xs16 xs29 xs42 xs55 xs68 hv14_f hxs16 hv27_f hxs29 hv40_f hxs42 hv53_f hxs55 hv66_f hxs68 h).1]; decide
                          · rw [(own_end4 v7 p1 v23 v38 v53 v69 v14_f v27_f v40_f v53_f v66_f _ xs16 xs29 xs42 xs55 xs68 hv14_f hxs16 hv27_f hxs29 hv40_f hxs42 hv53_f hxs55 hv66_f hxs68 h).1]; decide
                          · rw [(own_end5 v7 p1 v23 v38 v53 v69 v14_f v27_f v40_f v53_f v66_f _ xs16 xs29 xs42 xs55 xs68 hv14_f hxs16 hv27_f hxs29 hv40_f hxs42 hv53_f hxs55 hv66_f hxs68 h).1]; decide
                        have hsrt : own_sorted xs68 v66_f := by
                          rcases hn6 with h | h | h | h | h | h
                          · rw [(own_end0 v7 p1 v23 v38 v53 v69 v14_f v27_f v40_f v53_f v66_f _ xs16 xs29 xs42 xs55 xs68 hv14_f hxs16 hv27_f hxs29 hv40_f hxs42 hv53_f hxs55 hv66_f hxs68 h).1, (own_end0 v7 p1 v23 v38 v53 v69 v14_f v27_f v40_f v53_f v66_f _ xs16 xs29 xs42 xs55 xs68 hv14_f hxs16 hv27_f hxs29 hv40_f hxs42 hv53_f hxs55 hv66_f hxs68 h).2]; exact own_so0 _ p1 v23 v38 v53 v69 rfl hle1 hle2 hle3 hle4
                          · rw [(own_end1 v7 p1 v23 v38 v53 v69 v14_f v27_f v40_f v53_f v66_f _ xs16 xs29 xs42 xs55 xs68 hv14_f hxs16 hv27_f hxs29 hv40_f hxs42 hv53_f hxs55 hv66_f hxs68 h).1, (own_end1 v7 p1 v23 v38 v53 v69 v14_f v27_f v40_f v53_f v66_f _ xs16 xs29 xs42 xs55 xs68 hv14_f hxs16 hv27_f hxs29 hv40_f hxs42 hv53_f hxs55 hv66_f hxs68 h).2]; exact own_so1 _ p1 v23 v38 v53 v69 rfl hle1 hle2 hle3 hle4
                          · rw [(own_end2 v7 p1 v23 v38 v53 v69 v14_f v27_f v40_f v53_f v66_f _ xs16 xs29 xs42 xs55 xs68 hv14_f hxs16 hv27_f hxs29 hv40_f hxs42 hv53_f hxs55 hv66_f hxs68 h).1, (own_end2 v7 p1 v23 v38 v53 v69 v14_f v27_f v40_f v53_f v66_f _ xs16 xs29 xs42 xs55 xs68 hv14_f hxs16 hv27_f hxs29 hv40_f hxs42 hv53_f hxs55 hv66_f hxs68 h).2]; exact own_so2 _ p1 v23 v38 v53 v69 rfl hle1 hle2 hle3 hle4
                          · rw [(own_end3 v7 p1 v23 v38 v53 v69 v14_f v27_f v40_f v53_f v66_f _ xs16 xs29 xs42 xs55 xs68 hv14_f hxs16 hv27_f hxs29 hv40_f hxs42 hv53_f hxs55 hv66_f hxs68 h).1, (own_end3 v7 p1 v23 v38 v53 v69 v14_f v27_f v40_f v53_f v66_f _ xs16 xs29 xs42 xs55 xs68 hv14_f hxs16 hv27_f hxs29 hv40_f hxs42 hv53_f hxs55 hv66_f hxs68 h).2]; exact own_so3 _ p1 v23 v38 v53 v69 rfl hle1 hle2 hle3 hle4
                          · rw [(own_end4 v7 p1 v23 v38 v53 v69 v14_f v27_f v40_f v53_f v66_f _ xs16 xs29 xs42 xs55 xs68 hv14_f hxs16 hv27_f hxs29 hv40_f hxs42 hv53_f hxs55 hv66_f hxs68 h).1, (own_end4 v7 p1 v23 v38 v53 v69 v14_f v27_f v40_f v53_f v66_f _ xs16 xs29 xs42 xs55 xs68 hv14_f hxs16 hv27_f hxs29 hv40_f hxs42 hv53_f hxs55 hv66_f hxs68 h).2]; exact own_so4 _ p1 v23 v38 v53 v69 rfl hle1 hle2 hle3 hle4
                          · rw [(own_end5 v7 p1 v23 v38 v53 v69 v14_f v27_f v40_f v53_f v66_f _ xs16 xs29 xs42 xs55 xs68 hv14_f hxs16 hv27_f hxs29 hv40_f hxs42 hv53_f hxs55 hv66_f hxs68 h).1, (own_end5 v7 p1 v23 v38 v53 v69 v14_f v27_f v40_f v53_f v66_f _ xs16 xs29 xs42 xs55 xs68 hv14_f hxs16 hv27_f hxs29 hv40_f hxs42 hv53_f hxs55 hv66_f hxs68 h).2]; exact own_so5 _ p1 v23 v38 v53 v69 rfl hle1 hle2 hle3 hle4
                        refine own_callV (b := b6) X82 hx hZ hown (hw _ (List.mem_of_getElem? (i := 26) rfl)) (hw _ (List.mem_of_getElem? (i := 27) rfl)) (hw _ (List.mem_of_getElem? (i := 29) rfl)) (hw _ (List.mem_of_getElem? (i := 28) rfl)) (hw _ (List.mem_of_getElem? (i := 9) rfl)) (hw _ (List.mem_of_getElem? (i := 30) rfl)) (by decide) K61 (rm5 l Z a0 hw [] b6 v5_11 x7 v66_f xs68 h60 n0 F62 F65 A67 hsz hsrt) e82 (by decide) (by decide) (by decide) (by decide) (by rw [hml]; rfl) (argsL := [(.int v5_11)]) (rest := []) (lenOf own_pd4 rfl) rfl (W := 0) (Nat.le_of_eq rfl) (hb hby at_279) ?_
                        intro T83 r83 L83 X83 hQ83
                        obtain ⟨r83, rfl, Nq83, e83, hlb⟩ := hQ83
                        have N83 := Fr.app N82 Nq83
                        have hfin : Int32.ofNat r83 = v273 := by
                          rcases hn6 with h | h | h | h | h | h
                          · have E := own_end0 v7 p1 v23 v38 v53 v69 v14_f v27_f v40_f v53_f v66_f _ xs16 xs29 xs42 xs55 xs68 hv14_f hxs16 hv27_f hxs29 hv40_f hxs42 hv53_f hxs55 hv66_f hxs68 h
                            rw [E.1, E.2] at hlb
                            have F := own_fin0 _ p1 v23 v38 v53 v69 rfl _ _ hlb
                            rw [hv273, hv73_s0, hv75_s0, hv77_s0, hv79_s0, hv81_s0, h]; exact F
                          · have E := own_end1 v7 p1 v23 v38 v53 v69 v14_f v27_f v40_f v53_f v66_f _ xs16 xs29 xs42 xs55 xs68 hv14_f hxs16 hv27_f hxs29 hv40_f hxs42 hv53_f hxs55 hv66_f hxs68 h
                            rw [E.1, E.2] at hlb
                            have F := own_fin1 _ p1 v23 v38 v53 v69 rfl _ _ hlb
                            rw [hv273, hv73_s0, hv75_s0, hv77_s0, hv79_s0, hv81_s0, h]; exact F
                          · have E := own_end2 v7 p1 v23 v38 v53 v69 v14_f v27_f v40_f v53_f v66_f _ xs16 xs29 xs42 xs55 xs68 hv14_f hxs16 hv27_f hxs29 hv40_f hxs42 hv53_f hxs55 hv66_f hxs68 h
                            rw [E.1, E.2] at hlb
                            have F := own_fin2 _ p1 v23 v38 v53 v69 rfl _ _ hlb
                            rw [hv273, hv73_s0, hv75_s0, hv77_s0, hv79_s0, hv81_s0, h]; exact F
                          · have E := own_end3 v7 p1 v23 v38 v53 v69 v14_f v27_f v40_f v53_f v66_f _ xs16 xs29 xs42 xs55 xs68 hv14_f hxs16 hv27_f hxs29 hv40_f hxs42 hv53_f hxs55 hv66_f hxs68 h
                            rw [E.1, E.2] at hlb
                            have F := own_fin3 _ p1 v23 v38 v53 v69 rfl _ _ hlb
                            rw [hv273, hv73_s0, hv75_s0, hv77_s0, hv79_s0, hv81_s0, h]; exact F
                          · have E := own_end4 v7 p1 v23 v38 v53 v69 v14_f v27_f v40_f v53_f v66_f _ xs16 xs29 xs42 xs55 xs68 hv14_f hxs16 hv27_f hxs29 hv40_f hxs42 hv53_f hxs55 hv66_f hxs68 h
                            rw [E.1, E.2] at hlb
                            have F := own_fin4 _ p1 v23 v38 v53 v69 rfl _ _ hlb
                            rw [hv273, hv73_s0, hv75_s0, hv77_s0, hv79_s0, hv81_s0, h]; exact F
                          · have E := own_end5 v7 p1 v23 v38 v53 v69 v14_f v27_f v40_f v53_f v66_f _ xs16 xs29 xs42 xs55 xs68 hv14_f hxs16 hv27_f hxs29 hv40_f hxs42 hv53_f hxs55 hv66_f hxs68 h
                            rw [E.1, E.2] at hlb
                            have F := own_fin5 _ p1 v23 v38 v53 v69 rfl _ _ hlb
                            rw [hv273, hv73_s0, hv75_s0, hv77_s0, hv79_s0, hv81_s0, h]; exact F
                        have hd284 : (Int32.ofNat r83) = v273 := hfin
                        refine own_run (g' := (mkF m 292 #[.val (.int p0), .val (.int p1), .val (.int p2), .val (.int p3), .val (.int p4), .val (.int v7), .val (.int p1), .val (.int v23), .val (.int v38), .val (.int v53), .val (.int v69), .val (.int v5_11), .val (.ref b6), .val (.int v273)] [(.int (1 : Int32))])) (fun _ kt => XS.iload X83.here hx rfl (hb hby at_282) rfl (XS.icmpNo X83.here hx rfl (hb hby at_284) rfl ((teq hd284).2) (XS.iconst X83.here hx rfl (hb hby at_287) (XS.goto X83.here hx rfl (pc0 := 288) (pc' := 292) rfl (hb hby at_288) (by decide) (by decide) (kt))))) ?_
                        exact own_retN (t := .boolean) X83 hx Bd.notSynchronized Bd.returns (by simp) (hb hby at_292) (by decide) (by decide) ⟨rfl, N83⟩
                      by_cases hc257 : (4 : Int32) < v7
                      · refine own_run (g' := (mkF m 265 #[.val (.int p0), .val (.int p1), .val (.int p2), .val (.int p3), .val (.int p4), .val (.int v7), .val (.int p1), .val (.int v23), .val (.int v38), .val (.int v53), .val (.int v69), .val (.int v5_11), .val (.ref b6), .unset] [(.int (1 : Int32)), (.int ((((own_f4 v73_s0 p1 v5_11) + (own_f4 v75_s0 v23 v5_11)) + (own_f4 v77_s0 v38 v5_11)) + (own_f4 v79_s0 v53 v5_11)))])) (fun _ kt => XS.icmpNo X80.here hx rfl (hb hby at_257) rfl ((tlt hc257).2.2.2) (XS.iconst X80.here hx rfl (hb hby at_260) (XS.goto X80.here hx rfl (pc0 := 261) (pc' := 265) rfl (hb hby at_261) (by decide) (by decide) (kt)))) ?_
                        exact J81 (1 : Int32) (by rw [if_pos hc257])
                      · refine own_run (g' := (mkF m 265 #[.val (.int p0), .val (.int p1), .val (.int p2), .val (.int p3), .val (.int p4), .val (.int v7), .val (.int p1), .val (.int v23), .val (.int v38), .val (.int v53), .val (.int v69), .val (.int v5_11), .val (.ref b6), .unset] [(.int (0 : Int32)), (.int ((((own_f4 v73_s0 p1 v5_11) + (own_f4 v75_s0 v23 v5_11)) + (own_f4 v77_s0 v38 v5_11)) + (own_f4 v79_s0 v53 v5_11)))])) (fun _ kt => XS.icmpYes X80.here hx rfl (pc0 := 257) (pc' := 264) rfl (hb hby at_257) rfl ((flt hc257).2.2.2) (by decide) (by decide) (XS.iconst X80.here hx rfl (hb hby at_264) (kt))) ?_
                        exact J81 (0 : Int32) (by rw [if_neg hc257])
                    by_cases hc238 : (3 : Int32) < v7
                    · refine own_run (g' := (mkF m 246 #[.val (.int p0), .val (.int p1), .val (.int p2), .val (.int p3), .val (.int p4), .val (.int v7), .val (.int p1), .val (.int v23), .val (.int v38), .val (.int v53), .val (.int v69), .val (.int v5_11), .val (.ref b6), .unset] [(.int (1 : Int32)), (.int (((own_f4 v73_s0 p1 v5_11) + (own_f4 v75_s0 v23 v5_11)) + (own_f4 v77_s0 v38 v5_11)))])) (fun _ kt => XS.icmpNo X78.here hx rfl (hb hby at_238) rfl ((tlt hc238).2.2.2) (XS.iconst X78.here hx rfl (hb hby at_241) (XS.goto X78.here hx rfl (pc0 := 242) (pc' := 246) rfl (hb hby at_242) (by decide) (by decide) (kt)))) ?_
                      exact J79 (1 : Int32) (by rw [if_pos hc238])
                    · refine own_run (g' := (mkF m 246 #[.val (.int p0), .val (.int p1), .val (.int p2), .val (.int p3), .val (.int p4), .val (.int v7), .val (.int p1), .val (.int v23), .val (.int v38), .val (.int v53), .val (.int v69), .val (.int v5_11), .val (.ref b6), .unset] [(.int (0 : Int32)), (.int (((own_f4 v73_s0 p1 v5_11) + (own_f4 v75_s0 v23 v5_11)) + (own_f4 v77_s0 v38 v5_11)))])) (fun _ kt => XS.icmpYes X78.here hx rfl (pc0 := 238) (pc' := 245) rfl (hb hby at_238) rfl ((flt hc238).2.2.2) (by decide) (by decide) (XS.iconst X78.here hx rfl (hb hby at_245) (kt))) ?_
                      exact J79 (0 : Int32) (by rw [if_neg hc238])
                  by_cases hc219 : (2 : Int32) < v7
                  · refine own_run (g' := (mkF m 227 #[.val (.int p0), .val (.int p1), .val (.int p2), .val (.int p3), .val (.int p4), .val (.int v7), .val (.int p1), .val (.int v23), .val (.int v38), .val (.int v53), .val (.int v69), .val (.int v5_11), .val (.ref b6), .unset] [(.int (1 : Int32)), (.int ((own_f4 v73_s0 p1 v5_11) + (own_f4 v75_s0 v23 v5_11)))])) (fun _ kt => XS.icmpNo X76.here hx rfl (hb hby at_219) rfl ((tlt hc219).2.2.2) (XS.iconst X76.here hx rfl (hb hby at_222) (XS.goto X76.here hx rfl (pc0 := 223) (pc' := 227) rfl (hb hby at_223) (by decide) (by decide) (kt)))) ?_
                    exact J77 (1 : Int32) (by rw [if_pos hc219])
                  · refine own_run (g' := (mkF m 227 #[.val (.int p0), .val (.int p1), .val (.int p2), .val (.int p3), .val (.int p4), .val (.int v7), .val (.int p1), .val (.int v23), .val (.int v38), .val (.int v53), .val (.int v69), .val (.int v5_11), .val (.ref b6), .unset] [(.int (0 : Int32)), (.int ((own_f4 v73_s0 p1 v5_11) + (own_f4 v75_s0 v23 v5_11)))])) (fun _ kt => XS.icmpYes X76.here hx rfl (pc0 := 219) (pc' := 226) rfl (hb hby at_219) rfl ((flt hc219).2.2.2) (by decide) (by decide) (XS.iconst X76.here hx rfl (hb hby at_226) (kt))) ?_
                    exact J77 (0 : Int32) (by rw [if_neg hc219])
                by_cases hc200 : (1 : Int32) < v7
                · refine own_run (g' := (mkF m 208 #[.val (.int p0), .val (.int p1), .val (.int p2), .val (.int p3), .val (.int p4), .val (.int v7), .val (.int p1), .val (.int v23), .val (.int v38), .val (.int v53), .val (.int v69), .val (.int v5_11), .val (.ref b6), .unset] [(.int (1 : Int32)), (.int (own_f4 v73_s0 p1 v5_11))])) (fun _ kt => XS.icmpNo X74.here hx rfl (hb hby at_200) rfl ((tlt hc200).2.2.2) (XS.iconst X74.here hx rfl (hb hby at_203) (XS.goto X74.here hx rfl (pc0 := 204) (pc' := 208) rfl (hb hby at_204) (by decide) (by decide) (kt)))) ?_
                  exact J75 (1 : Int32) (by rw [if_pos hc200])
                · refine own_run (g' := (mkF m 208 #[.val (.int p0), .val (.int p1), .val (.int p2), .val (.int p3), .val (.int p4), .val (.int v7), .val (.int p1), .val (.int v23), .val (.int v38), .val (.int v53), .val (.int v69), .val (.int v5_11), .val (.ref b6), .unset] [(.int (0 : Int32)), (.int (own_f4 v73_s0 p1 v5_11))])) (fun _ kt => XS.icmpYes X74.here hx rfl (pc0 := 200) (pc' := 207) rfl (hb hby at_200) rfl ((flt hc200).2.2.2) (by decide) (by decide) (XS.iconst X74.here hx rfl (hb hby at_207) (kt))) ?_
                  exact J75 (0 : Int32) (by rw [if_neg hc200])
              by_cases hc182 : (0 : Int32) < v7
              · refine own_run (g' := (mkF m 190 #[.val (.int p0), .val (.int p1), .val (.int p2), .val (.int p3), .val (.int p4), .val (.int v7), .val (.int p1), .val (.int v23), .val (.int v38), .val (.int v53), .val (.int v69), .val (.int v5_11), .val (.ref b6), .unset] [(.int (1 : Int32))])) (fun _ kt => XS.ifNo X60.here hx rfl (hb hby at_182) rfl ((if0 _ _).trans (tlt hc182).2.2.2) (XS.iconst X60.here hx rfl (hb hby at_185) (XS.goto X60.here hx rfl (pc0 := 186) (pc' := 190) rfl (hb hby at_186) (by decide) (by decide) (kt)))) ?_
                exact J73 (1 : Int32) (by rw [if_pos hc182])
              · refine own_run (g' := (mkF m 190 #[.val (.int p0), .val (.int p1), .val (.int p2), .val (.int p3), .val (.int p4), .val (.int v7), .val (.int p1), .val (.int v23), .val (.int v38), .val (.int v53), .val (.int v69), .val (.int v5_11), .val (.ref b6), .unset] [(.int (0 : Int32))])) (fun _ kt => XS.ifYes X60.here hx rfl (pc0 := 182) (pc' := 189) rfl (hb hby at_182) rfl ((if0 _ _).trans (flt hc182).2.2.2) (by decide) (by decide) (XS.iconst X60.here hx rfl (hb hby at_189) (kt))) ?_
                exact J73 (0 : Int32) (by rw [if_neg hc182])
            by_cases hc168 : (4 : Int32) < v7
            · refine own_run (g' := (mkF m 177 #[.val (.int p0), .val (.int p1), .val (.int p2), .val (.int p3), .val (.int p4), .val (.int v7), .val (.int p1), .val (.int v23), .val (.int v38), .val (.int v53), .val (.int v69), .val (.int v5_11), .val (.ref b6), .unset] [(.int (-1 : Int32)), (.int (4 : Int32)), (.int v69), (.ref b6)])) (fun _ kt => XS.icmpNo X47.here hx rfl (hb hby at_168) rfl ((tlt hc168).2.2.2) (XS.aload X47.here hx rfl (hb hby at_171) rfl rfl (XS.iload X47.here hx rfl (hb hby at_173) rfl (XS.iconst X47.here hx rfl (hb hby at_175) (XS.iconst X47.here hx rfl (hb hby at_176) (kt)))))) ?_
              have ek177 := own_xk4 v7 p1 v23 v38 v53 v14_f v27_f v40_f v53_f _ xs16 xs29 xs42 xs55 hv14_f hxs16 hv27_f hxs29 hv40_f hxs42 hv53_f hxs55 (Int32.lt_trans (by decide) hc168)
              have hs177 : ¬ v53_f < 0 ∧ v53_f < (64 : Int32) := by rw [ek177.1]; decide
              have hl177 : (0 : Int32) < v53_f → ¬ v69 < xs55.getD (v53_f - (1 : Int32)).toNatClampNeg 0 := by rw [ek177.1, ek177.2]; intro _; rw [Int32.lt_iff_toInt_lt]; exact Int.not_lt.mpr hle4
              refine own_callV (b := b6) X47 hx hZ hown (hw _ (List.mem_of_getElem? (i := 33) rfl)) (hw _ (List.mem_of_getElem? (i := 34) rfl)) (hw _ (List.mem_of_getElem? (i := 36) rfl)) (hw _ (List.mem_of_getElem? (i := 35) rfl)) (hw _ (List.mem_of_getElem? (i := 9) rfl)) (hw _ (List.mem_of_getElem? (i := 37) rfl)) (by decide) K48 (rm6 l Z a0 hw [] b6 v69 (4 : Int32) (-1 : Int32) x7 y7 z7 v53_f xs55 xs57 xs59 h47 n0 Zh47 K48 F49 F50 F51 F52 A54 A56 A58 g_b6 g_x7 g_y7 g_z7 ne_b6_x7 ne_b6_y7 ne_b6_z7 ne_x7_y7 ne_x7_z7 ne_y7_z7 hs177 hl177) e47 (by decide) (by decide) (by decide) (by decide) (by rw [hml]; rfl) (argsL := [(.int v69), (.int (4 : Int32)), (.int (-1 : Int32))]) (rest := []) (lenOf own_pd2 rfl) rfl (W := 0) (Nat.le_of_eq rfl) (hb hby at_177) ?_
              intro T84 r84 L84 X84 hQ84
              obtain ⟨rfl, Nq84, Kc84, F84_from, F84_event, F84_to, F84_size, A84_0, A84_1, A84_2⟩ := hQ84
              have N84 := Fr.app N47 Nq84
              replace K48 := K48.keep Kc84
              have Z84 : n0 ≤ T84.heap.size := Nat.le_trans Zh47 Kc84.1
              exact J60 T84 _ T84.heap (v53_f + (1 : Int32)) (xs55.set v53_f.toNatClampNeg v69) (xs57.set v53_f.toNatClampNeg (4 : Int32)) (xs59.set v53_f.toNatClampNeg (-1 : Int32)) X84 N84 rfl Z84 K48 F84_from F84_event F84_to F84_size A84_0 A84_1 A84_2 (by rw [if_pos hc168]) (by rw [if_pos hc168]) (by rw [if_pos hc168]) (by rw [if_pos hc168])
            · refine own_run (g' := (mkF m 180 #[.val (.int p0), .val (.int p1), .val (.int p2), .val (.int p3), .val (.int p4), .val (.int v7), .val (.int p1), .val (.int v23), .val (.int v38), .val (.int v53), .val (.int v69), .val (.int v5_11), .val (.ref b6), .unset] [])) (fun _ kt => XS.icmpYes X47.here hx rfl (pc0 := 168) (pc' := 180) rfl (hb hby at_168) rfl ((flt hc168).2.2.2) (by decide) (by decide) (kt)) ?_
              exact J60 T47 _ h47 v53_f xs55 xs57 xs59 X47 N47 e47 Zh47 K48 F49 F50 F51 F52 A54 A56 A58 (by rw [if_neg hc168]) (by rw [if_neg hc168]) (by rw [if_neg hc168]) (by rw [if_neg hc168])
          by_cases hc153 : (3 : Int32) < v7
          · refine own_run (g' := (mkF m 162 #[.val (.int p0), .val (.int p1), .val (.int p2), .val (.int p3), .val (.int p4), .val (.int v7), .val (.int p1), .val (.int v23), .val (.int v38), .val (.int v53), .val (.int v69), .val (.int v5_11), .val (.ref b6), .unset] [(.int (1 : Int32)), (.int (3 : Int32)), (.int v53), (.ref b6)])) (fun _ kt => XS.icmpNo X34.here hx rfl (hb hby at_153) rfl ((tlt hc153).2.2.2) (XS.aload X34.here hx rfl (hb hby at_156) rfl rfl (XS.iload X34.here hx rfl (hb hby at_158) rfl (XS.iconst X34.here hx rfl (hb hby at_160) (XS.iconst X34.here hx rfl (hb hby at_161) (kt)))))) ?_
            have ek162 := own_xk3 v7 p1 v23 v38 v14_f v27_f v40_f _ xs16 xs29 xs42 hv14_f hxs16 hv27_f hxs29 hv40_f hxs42 (Int32.lt_trans (by decide) hc153)
            have hs162 : ¬ v40_f < 0 ∧ v40_f < (64 : Int32) := by rw [ek162.1]; decide
            have hl162 : (0 : Int32) < v40_f → ¬ v53 < xs42.getD (v40_f - (1 : Int32)).toNatClampNeg 0 := by rw [ek162.1, ek162.2]; intro _; rw [Int32.lt_iff_toInt_lt]; exact Int.not_lt.mpr hle3
            refine own_callV (b := b6) X34 hx hZ hown (hw _ (List.mem_of_getElem? (i := 33) rfl)) (hw _ (List.mem_of_getElem? (i := 34) rfl)) (hw _ (List.mem_of_getElem? (i := 36) rfl)) (hw _ (List.mem_of_getElem? (i := 35) rfl)) (hw _ (List.mem_of_getElem? (i := 9) rfl)) (hw _ (List.mem_of_getElem? (i := 37) rfl)) (by decide) K35 (rm6 l Z a0 hw [] b6 v53 (3 : Int32) (1 : Int32) x7 y7 z7 v40_f xs42 xs44 xs46 h34 n0 Zh34 K35 F36 F37 F38 F39 A41 A43 A45 g_b6 g_x7 g_y7 g_z7 ne_b6_x7 ne_b6_y7 ne_b6_z7 ne_x7_y7 ne_x7_z7 ne_y7_z7 hs162 hl162) e34 (by decide) (by decide) (by decide) (by decide) (by rw [hml]; rfl) (argsL := [(.int v53), (.int (3 : Int32)), (.int (1 : Int32))]) (rest := []) (lenOf own_pd2 rfl) rfl (W := 0) (Nat.le_of_eq rfl) (hb hby at_162) ?_
            intro T85 r85 L85 X85 hQ85
            obtain ⟨rfl, Nq85, Kc85, F85_from, F85_event, F85_to, F85_size, A85_0, A85_1, A85_2⟩ := hQ85
            have N85 := Fr.app N34 Nq85
            replace K35 := K35.keep Kc85
            have Z85 : n0 ≤ T85.heap.size := Nat.le_trans Zh34 Kc85.1
            exact J47 T85 _ T85.heap (v40_f + (1 : Int32)) (xs42.set v40_f.toNatClampNeg v53) (xs44.set v40_f.toNatClampNeg (3 : Int32)) (xs46.set v40_f.toNatClampNeg (1 : Int32)) X85 N85 rfl Z85 K35 F85_from F85_event F85_to F85_size A85_0 A85_1 A85_2 (by rw [if_pos hc153]) (by rw [if_pos hc153]) (by rw [if_pos hc153]) (by rw [if_pos hc153])
          · refine own_run (g' := (mkF m 165 #[.val (.int p0), .val (.int p1), .val (.int p2), .val (.int p3), .val (.int p4), .val (.int v7), .val (.int p1), .val (.int v23), .val (.int v38), .val (.int v53), .val (.int v69), .val (.int v5_11), .val (.ref b6), .unset] [])) (fun _ kt => XS.icmpYes X34.here hx rfl (pc0 := 153) (pc' := 165) rfl (hb hby at_153) rfl ((flt hc153).2.2.2) (by decide) (by decide) (kt)) ?_
            exact J47 T34 _ h34 v40_f xs42 xs44 xs46 X34 N34 e34 Zh34 K35 F36 F37 F38 F39 A41 A43 A45 (by rw [if_neg hc153]) (by rw [if_neg hc153]) (by rw [if_neg hc153]) (by rw [if_neg hc153])
        by_cases hc138 : (2 : Int32) < v7
        · refine own_run (g' := (mkF m 147 #[.val (.int p0), .val (.int p1), .val (.int p2), .val (.int p3), .val (.int p4), .val (.int v7), .val (.int p1), .val (.int v23), .val (.int v38), .val (.int v53), .val (.int v69), .val (.int v5_11), .val (.ref b6), .unset] [(.int (-1 : Int32)), (.int (2 : Int32)), (.int v38), (.ref b6)])) (fun _ kt => XS.icmpNo X21.here hx rfl (hb hby at_138) rfl ((tlt hc138).2.2.2) (XS.aload X21.here hx rfl (hb hby at_141) rfl rfl (XS.iload X21.here hx rfl (hb hby at_143) rfl (XS.iconst X21.here hx rfl (hb hby at_145) (XS.iconst X21.here hx rfl (hb hby at_146) (kt)))))) ?_
          have ek147 := own_xk2 v7 p1 v23 v14_f v27_f _ xs16 xs29 hv14_f hxs16 hv27_f hxs29 (Int32.lt_trans (by decide) hc138)
          have hs147 : ¬ v27_f < 0 ∧ v27_f < (64 : Int32) := by rw [ek147.1]; decide
          have hl147 : (0 : Int32) < v27_f → ¬ v38 < xs29.getD (v27_f - (1 : Int32)).toNatClampNeg 0 := by rw [ek147.1, ek147.2]; intro _; rw [Int32.lt_iff_toInt_lt]; exact Int.not_lt.mpr hle2
          refine own_callV (b := b6) X21 hx hZ hown (hw _ (List.mem_of_getElem? (i := 33) rfl)) (hw _ (List.mem_of_getElem? (i := 34) rfl)) (hw _ (List.mem_of_getElem? (i := 36) rfl)) (hw _ (List.mem_of_getElem? (i := 35) rfl)) (hw _ (List.mem_of_getElem? (i := 9) rfl)) (hw _ (List.mem_of_getElem? (i := 37) rfl)) (by decide) K22 (rm6 l Z a0 hw [] b6 v38 (2 : Int32) (-1 : Int32) x7 y7 z7 v27_f xs29 xs31 xs33 h21 n0 Zh21 K22 F23 F24 F25 F26 A28 A30 A32 g_b6 g_x7 g_y7 g_z7 ne_b6_x7 ne_b6_y7 ne_b6_z7 ne_x7_y7 ne_x7_z7 ne_y7_z7 hs147 hl147) e21 (by decide) (by decide) (by decide) (by decide) (by rw [hml]; rfl) (argsL := [(.int v38), (.int (2 : Int32)), (.int (-1 : Int32))]) (rest := []) (lenOf own_pd2 rfl) rfl (W := 0) (Nat.le_of_eq rfl) (hb hby at_147) ?_
          intro T86 r86 L86 X86 hQ86
          obtain ⟨rfl, Nq86, Kc86, F86_from, F86_event, F86_to, F86_size, A86_0, A86_1, A86_2⟩ := hQ86
          have N86 := Fr.app N21 Nq86
          replace K22 := K22.keep Kc86
          have Z86 : n0 ≤ T86.heap.size := Nat.le_trans Zh21 Kc86.1
          exact J34 T86 _ T86.heap (v27_f + (1 : Int32)) (xs29.set v27_f.toNatClampNeg v38) (xs31.set v27_f.toNatClampNeg (2 : Int32)) (xs33.set v27_f.toNatClampNeg (-1 : Int32)) X86 N86 rfl Z86 K22 F86_from F86_event F86_to F86_size A86_0 A86_1 A86_2 (by rw [if_pos hc138]) (by rw [if_pos hc138]) (by rw [if_pos hc138]) (by rw [if_pos hc138])
        · refine own_run (g' := (mkF m 150 #[.val (.int p0), .val (.int p1), .val (.int p2), .val (.int p3), .val (.int p4), .val (.int v7), .val (.int p1), .val (.int v23), .val (.int v38), .val (.int v53), .val (.int v69), .val (.int v5_11), .val (.ref b6), .unset] [])) (fun _ kt => XS.icmpYes X21.here hx rfl (pc0 := 138) (pc' := 150) rfl (hb hby at_138) rfl ((flt hc138).2.2.2) (by decide) (by decide) (kt)) ?_
          exact J34 T21 _ h21 v27_f xs29 xs31 xs33 X21 N21 e21 Zh21 K22 F23 F24 F25 F26 A28 A30 A32 (by rw [if_neg hc138]) (by rw [if_neg hc138]) (by rw [if_neg hc138]) (by rw [if_neg hc138])
      by_cases hc123 : (1 : Int32) < v7
      · refine own_run (g' := (mkF m 132 #[.val (.int p0), .val (.int p1), .val (.int p2), .val (.int p3), .val (.int p4), .val (.int v7), .val (.int p1), .val (.int v23), .val (.int v38), .val (.int v53), .val (.int v69), .val (.int v5_11), .val (.ref b6), .unset] [(.int (0 : Int32)), (.int (1 : Int32)), (.int v23), (.ref b6)])) (fun _ kt => XS.icmpNo X8.here hx rfl (hb hby at_123) rfl ((tlt hc123).2.2.2) (XS.aload X8.here hx rfl (hb hby at_126) rfl rfl (XS.iload X8.here hx rfl (hb hby at_128) rfl (XS.iconst X8.here hx rfl (hb hby at_130) (XS.iconst X8.here hx rfl (hb hby at_131) (kt)))))) ?_
        have ek132 := own_xk1 v7 p1 v14_f _ xs16 hv14_f hxs16 (Int32.lt_trans (by decide) hc123)
        have hs132 : ¬ v14_f < 0 ∧ v14_f < (64 : Int32) := by rw [ek132.1]; decide
        have hl132 : (0 : Int32) < v14_f → ¬ v23 < xs16.getD (v14_f - (1 : Int32)).toNatClampNeg 0 := by rw [ek132.1, ek132.2]; intro _; rw [Int32.lt_iff_toInt_lt]; exact Int.not_lt.mpr hle1
        refine own_callV (b := b6) X8 hx hZ hown (hw _ (List.mem_of_getElem? (i := 33) rfl)) (hw _ (List.mem_of_getElem? (i := 34) rfl)) (hw _ (List.mem_of_getElem? (i := 36) rfl)) (hw _ (List.mem_of_getElem? (i := 35) rfl)) (hw _ (List.mem_of_getElem? (i := 9) rfl)) (hw _ (List.mem_of_getElem? (i := 37) rfl)) (by decide) K9 (rm6 l Z a0 hw [] b6 v23 (1 : Int32) (0 : Int32) x7 y7 z7 v14_f xs16 xs18 xs20 h8 n0 Zh8 K9 F10 F11 F12 F13 A15 A17 A19 g_b6 g_x7 g_y7 g_z7 ne_b6_x7 ne_b6_y7 ne_b6_z7 ne_x7_y7 ne_x7_z7 ne_y7_z7 hs132 hl132) e8 (by decide) (by decide) (by decide) (by decide) (by rw [hml]; rfl) (argsL := [(.int v23), (.int (1 : Int32)), (.int (0 : Int32))]) (rest := []) (lenOf own_pd2 rfl) rfl (W := 0) (Nat.le_of_eq rfl) (hb hby at_132) ?_
        intro T87 r87 L87 X87 hQ87
        obtain ⟨rfl, Nq87, Kc87, F87_from, F87_event, F87_to, F87_size, A87_0, A87_1, A87_2⟩ := hQ87
        have N87 := Fr.app N8 Nq87
        replace K9 := K9.keep Kc87
        have Z87 : n0 ≤ T87.heap.size := Nat.le_trans Zh8 Kc87.1
        exact J21 T87 _ T87.heap (v14_f + (1 : Int32)) (xs16.set v14_f.toNatClampNeg v23) (xs18.set v14_f.toNatClampNeg (1 : Int32)) (xs20.set v14_f.toNatClampNeg (0 : Int32)) X87 N87 rfl Z87 K9 F87_from F87_event F87_to F87_size A87_0 A87_1 A87_2 (by rw [if_pos hc123]) (by rw [if_pos hc123]) (by rw [if_pos hc123]) (by rw [if_pos hc123])
      · refine own_run (g' := (mkF m 135 #[.val (.int p0), .val (.int p1), .val (.int p2), .val (.int p3), .val (.int p4), .val (.int v7), .val (.int p1), .val (.int v23), .val (.int v38), .val (.int v53), .val (.int v69), .val (.int v5_11), .val (.ref b6), .unset] [])) (fun _ kt => XS.icmpYes X8.here hx rfl (pc0 := 123) (pc' := 135) rfl (hb hby at_123) rfl ((flt hc123).2.2.2) (by decide) (by decide) (kt)) ?_
        exact J21 T8 _ h8 v14_f xs16 xs18 xs20 X8 N8 e8 Zh8 K9 F10 F11 F12 F13 A15 A17 A19 (by rw [if_neg hc123]) (by rw [if_neg hc123]) (by rw [if_neg hc123]) (by rw [if_neg hc123])
    by_cases hc108 : (0 : Int32) < v7
    · refine own_run (g' := (mkF m 117 #[.val (.int p0), .val (.int p1), .val (.int p2), .val (.int p3), .val (.int p4), .val (.int v7), .val (.int p1), .val (.int v23), .val (.int v38), .val (.int v53), .val (.int v69), .val (.int v5_11), .val (.ref b6), .unset] [(.int (-1 : Int32)), (.int (0 : Int32)), (.int p1), (.ref b6)])) (fun _ kt => XS.ifNo X7.here hx rfl (hb hby at_108) rfl ((if0 _ _).trans (tlt hc108).2.2.2) (XS.aload X7.here hx rfl (hb hby at_111) rfl rfl (XS.iload X7.here hx rfl (hb hby at_113) rfl (XS.iconst X7.here hx rfl (hb hby at_115) (XS.iconst X7.here hx rfl (hb hby at_116) (kt)))))) ?_
      have hs117 : ¬ (0 : Int32) < 0 ∧ (0 : Int32) < (64 : Int32) := by decide
      have hl117 : (0 : Int32) < (0 : Int32) → ¬ p1 < (List.replicate (64 : Int32).toNatClampNeg 0).getD ((0 : Int32) - (1 : Int32)).toNatClampNeg 0 := fun q => absurd q (by decide)
      refine own_callV (b := b6) X7 hx hZ hown (hw _ (List.mem_of_getElem? (i := 33) rfl)) (hw _ (List.mem_of_getElem? (i := 34) rfl)) (hw _ (List.mem_of_getElem? (i := 36) rfl)) (hw _ (List.mem_of_getElem? (i := 35) rfl)) (hw _ (List.mem_of_getElem? (i := 9) rfl)) (hw _ (List.mem_of_getElem? (i := 37) rfl)) (by decide) K6 (rm6 l Z a0 hw [] b6 p1 (0 : Int32) (-1 : Int32) x7 y7 z7 (0 : Int32) (List.replicate (64 : Int32).toNatClampNeg 0) (List.replicate (64 : Int32).toNatClampNeg 0) (List.replicate (64 : Int32).toNatClampNeg 0) T7.heap n0 Z7 K6 F7_from F7_event F7_to F7_size A7_from A7_event A7_to g_b6 g_x7 g_y7 g_z7 ne_b6_x7 ne_b6_y7 ne_b6_z7 ne_x7_y7 ne_x7_z7 ne_y7_z7 hs117 hl117) rfl (by decide) (by decide) (by decide) (by decide) (by rw [hml]; rfl) (argsL := [(.int p1), (.int (0 : Int32)), (.int (-1 : Int32))]) (rest := []) (lenOf own_pd2 rfl) rfl (W := 0) (Nat.le_of_eq rfl) (hb hby at_117) ?_
      intro T88 r88 L88 X88 hQ88
      obtain ⟨rfl, Nq88, Kc88, F88_from, F88_event, F88_to, F88_size, A88_0, A88_1, A88_2⟩ := hQ88
      have N88 := Fr.app N7 Nq88
      replace K6 := K6.keep Kc88
      have Z88 : n0 ≤ T88.heap.size := Nat.le_trans Z7 Kc88.1
      exact J8 T88 _ T88.heap ((0 : Int32) + (1 : Int32)) ((List.replicate (64 : Int32).toNatClampNeg 0).set (0 : Int32).toNatClampNeg p1) ((List.replicate (64 : Int32).toNatClampNeg 0).set (0 : Int32).toNatClampNeg (0 : Int32)) ((List.replicate (64 : Int32).toNatClampNeg 0).set (0 : Int32).toNatClampNeg (-1 : Int32)) X88 N88 rfl Z88 K6 F88_from F88_event F88_to F88_size A88_0 A88_1 A88_2 (by rw [if_pos hc108]) (by rw [if_pos hc108]) (by rw [if_pos hc108]) (by rw [if_pos hc108])
    · refine own_run (g' := (mkF m 120 #[.val (.int p0), .val (.int p1), .val (.int p2), .val (.int p3), .val (.int p4), .val (.int v7), .val (.int p1), .val (.int v23), .val (.int v38), .val (.int v53), .val (.int v69), .val (.int v5_11), .val (.ref b6), .unset] [])) (fun _ kt => XS.ifYes X7.here hx rfl (pc0 := 108) (pc' := 120) rfl (hb hby at_108) rfl ((if0 _ _).trans (flt hc108).2.2.2) (by decide) (by decide) (kt)) ?_
      exact J8 T7 _ T7.heap (0 : Int32) (List.replicate (64 : Int32).toNatClampNeg 0) (List.replicate (64 : Int32).toNatClampNeg 0) (List.replicate (64 : Int32).toNatClampNeg 0) X7 N7 rfl Z7 K6 F7_from F7_event F7_to F7_size A7_from A7_event A7_to (by rw [if_neg hc108]) (by rw [if_neg hc108]) (by rw [if_neg hc108]) (by rw [if_neg hc108])
  by_cases hc75 : (p4 &&& (1 : Int32)) = (0 : Int32)
  · refine own_run (g' := (mkF m 97 #[.val (.int p0), .val (.int p1), .val (.int p2), .val (.int p3), .val (.int p4), .val (.int v7), .val (.int p1), .val (.int v23), .val (.int v38), .val (.int v53), .val (.int v69), .val (.int p3), .unset, .unset] [])) (fun _ kt => XS.ifNo X4.here hx rfl (hb hby at_75) rfl ((if0 _ _).trans (teq hc75).2) (XS.iloadN X4.here hx rfl (hb hby at_78) rfl (XS.istore X4.here hx rfl (hb hby at_79) rfl (l' := #[.val (.int p0), .val (.int p1), .val (.int p2), .val (.int p3), .val (.int p4), .val (.int v7), .val (.int p1), .val (.int v23), .val (.int v38), .val (.int v53), .val (.int v69), .val (.int p3), .unset, .unset]) rfl (XS.goto X4.here hx rfl (pc0 := 81) (pc' := 97) rfl (hb hby at_81) (by decide) (by decide) (kt))))) ?_
    exact J5 T4 _ p3 X4 N4 e4 (by rw [if_pos hc75])
  · refine own_run (g' := (mkF m 92 #[.val (.int p0), .val (.int p1), .val (.int p2), .val (.int p3), .val (.int p4), .val (.int v7), .val (.int p1), .val (.int v23), .val (.int v38), .val (.int v53), .val (.int v69), .unset, .unset, .unset] [(.long (p1.toInt64 + (p3 % (8 : Int32)).toInt64))])) (fun _ kt => XS.ifYes X4.here hx rfl (pc0 := 75) (pc' := 84) rfl (hb hby at_75) rfl ((if0 _ _).trans (feq hc75).2) (by decide) (by decide) (XS.iloadN X4.here hx rfl (hb hby at_84) rfl (XS.i2l X4.here hx rfl (hb hby at_85) rfl (XS.iloadN X4.here hx rfl (hb hby at_86) rfl (XS.bipush X4.here hx rfl (hb hby at_87) (own_irem X4.here hx rfl (hb hby at_89) rfl (by decide) (XS.i2l X4.here hx rfl (hb hby at_90) rfl (XS.ladd X4.here hx rfl (hb hby at_91) rfl (kt))))))))) ?_
    refine own_callS X4 hx hZ hown (hw _ (List.mem_of_getElem? (i := 1) rfl)) (hw _ (List.mem_of_getElem? (i := 2) rfl)) (hw _ (List.mem_of_getElem? (i := 3) rfl)) (hw _ (List.mem_of_getElem? (i := 4) rfl)) (by decide) (rm1 l Z a0 hw [] (p1.toInt64 + (p3 % (8 : Int32)).toInt64) h0 n0) e4 (by decide) (by decide) (by decide) (by decide) (by rw [hml]; rfl) (argsL := [(.long (p1.toInt64 + (p3 % (8 : Int32)).toInt64))]) (rest := []) (lenOf own_pd0 rfl) rfl (W := 0) (Nat.le_of_eq rfl) (hb hby at_92) ?_
    intro T89 r89 L89 X89 hQ89
    obtain ⟨rfl, Nq89, e89⟩ := hQ89
    have N89 := Fr.app N4 Nq89
    refine own_run (g' := (mkF m 97 #[.val (.int p0), .val (.int p1), .val (.int p2), .val (.int p3), .val (.int p4), .val (.int v7), .val (.int p1), .val (.int v23), .val (.int v38), .val (.int v53), .val (.int v69), .val (.int (own_f1 (p1.toInt64 + (p3 % (8 : Int32)).toInt64))), .unset, .unset] [])) (fun _ kt => XS.istore X89.here hx rfl (hb hby at_95) rfl (l' := #[.val (.int p0), .val (.int p1), .val (.int p2), .val (.int p3), .val (.int p4), .val (.int v7), .val (.int p1), .val (.int v23), .val (.int v38), .val (.int v53), .val (.int v69), .val (.int (own_f1 (p1.toInt64 + (p3 % (8 : Int32)).toInt64))), .unset, .unset]) rfl (kt)) ?_
    obtain ⟨v95, hv95⟩ : ∃ z : Int32, z = (own_f1 (p1.toInt64 + (p3 % (8 : Int32)).toInt64)) := ⟨_, rfl⟩
    rw [← hv95]
    exact J5 T89 _ v95 X89 N89 e89 (by subst hv95; rw [if_neg hc75])
set_option maxRecDepth 65536 in
set_option maxHeartbeats 40000000 in
theorem comes_1 {Post : Tables → Env → Array Value → State → Outcome → State → Prop} (hpost : ∀ tb e args s v u, (limb_1_1.after args s (.returned v) u = true ∧ limb_1_2.after args s (.returned v) u = true ∧ True) → FrameEnd s (.returned v) u (Jvm.fieldLocs frame_1_writes args s ++ Jvm.arrayLocs frame_1_arrays args s ++ Jvm.staticLocs frame_1_statics s) 16 512 → Post tb e args s (.returned v) u) :
    ArmFor flags0 classFile x code maxLocals ret World_1 tables_1 room_1 Calls_1 rest_1 Pre_1 Post := by
  intro l hfl _ _ p e ha hc hk s m args below hf hA hF happ hP
  obtain ⟨hcalls, hrest, hpre⟩ := hP
  obtain ⟨-, -, -, hnamed, -, -, -, hat⟩ := (Spec.applies_iff hf).mp happ
  obtain ⟨hg, hn⟩ := and_e (Cond.before_iff.mp (show (Jvm.Cond.and given_1 narrow_1).before args s = true from hpre))
  obtain ⟨hcnt, g0⟩ := and_e hg
  obtain ⟨k0, g1⟩ := and_e g0
  obtain ⟨k1, g2⟩ := and_e g1
  obtain ⟨k2, g3⟩ := and_e g2
  obtain ⟨k3, g4⟩ := and_e g3
  obtain ⟨w0, w1, w2, w3, w4, rfl⟩ : ∃ w0 w1 w2 w3 w4 : Value, args = #[w0, w1, w2, w3, w4] := by
    have hs : args.size = 5 := by simpa [Cond.value, given_1] using hcnt
    obtain ⟨L⟩ := args
    match L, hs with
    | [w0, w1, w2, w3, w4], _ => exact ⟨w0, w1, w2, w3, w4, rfl⟩
  have hw := fun d (hd : d ∈ tables_1) => atoms_spec (ws := Jvm.Cond.code x code maxLocals ret :: tables_1) hat d (List.mem_cons_of_mem _ hd)
  obtain ⟨i0, ei0⟩ := is_v k0
  obtain rfl : w0 = (.int i0) := Option.some.inj ei0
  obtain ⟨i1, ei1⟩ := is_v k1
  obtain rfl : w1 = (.int i1) := Option.some.inj ei1
  obtain ⟨i2, ei2⟩ := is_v k2
  obtain rfl : w2 = (.int i2) := Option.some.inj ei2
  obtain ⟨i3, ei3⟩ := is_v k3
  obtain rfl : w3 = (.int i3) := Option.some.inj ei3
  obtain ⟨i4, ei4⟩ := is_v g4
  obtain rfl : w4 = (.int i4) := Option.some.inj ei4
  obtain ⟨n, o, h1, h2, h3, _, L, rfl, ⟨rfl, N⟩, hq⟩ := rm0 l s _ hw tables_1 i0 i1 i2 i3 i4 s.heap s.heap.size (Nat.le_refl _) p e ha hc hk s m _ below hf ((Spec.applies_iff_loose hf).mp happ).1 ⟨rfl, State.Warmed39.refl s, rfl⟩ trivial
  refine ⟨n, _, h1, h2, h3, hpost _ _ _ _ _ _ ⟨Cond.after_iff.mpr rfl, Cond.after_iff.mpr (eq_i res_at (Term.int_eval (1)) rfl), trivial⟩ ⟨hq.1, hq.2.1, (hq.2.2.sift fun y hy => Or.inr (N y hy)).mono (by decide) (by decide)⟩⟩
theorem main_1_1 : Claimed_1_1 := comes_1 fun _ _ _ _ _ _ h hF => ⟨h.1, hF⟩
theorem main_1_2 : Claimed_1_2 := comes_1 fun _ _ _ _ _ _ h hF => ⟨h.2.1, hF⟩
end Jvm.Pilot.@@N@@
namespace Jvm.Pilot.@@N@@
open Jvm Jvm.ClassFile Sem Op Lib Jvm.Free Jvm.Stand Jvm.Pilot.@@N@@.Jvm.D
/-! MADE BY PROGRAM (witnessworld.py) out of the Statement's table words and the real class files: 9 classes; the members and pool entries that the words name. The judged class is class 1, her method 3. -/
namespace start1
open Jvm.ClassFile
def u (s : String) : CpInfo := .utf8 (stringToUtf16 s)
/-- a pool by its gaps: so many unusable entries, then the entry; so many at the end -/
def gap : Nat → List CpInfo → List CpInfo
  | 0, r => r
  | n + 1, r => .unusable :: gap n r
def poolList (es : List (Nat × CpInfo)) (last : Nat) : List CpInfo := es.foldr (fun e r => gap e.1 (e.2 :: r)) (gap last [])
def pool (es : List (Nat × CpInfo)) (last : Nat) : Array CpInfo := ⟨poolList es last⟩
def fileOf (pool : Array CpInfo) (this : Nat) (attrs : Array Attribute := #[]) (ms : Array MethodInfo := #[]) (fl : Nat := 33) (sup : Nat := 0) (ifs : Array Nat := #[]) (fds : Array FieldInfo := #[]) : ClassFile where
  minorVersion := 0
  majorVersion := 65
  constantPool := pool
  accessFlags := fl
  thisClass := this
  superClass := sup
  interfaces := ifs
  fields := fds
  methods := ms
  attributes := attrs
def plain (name : String) (sup : Option ClassId) : Class where
  name := name
  kind := .ordinary
  loader := none
  accessFlags := 33
  super := sup
  interfaces := #[]
  cf := none
  fields := #[]
  methods := #[]
  instanceTypes := #[]
  staticTypes := #[]
  resolved := #[]
  callSites := []
  init := .initialized
  statics := none
  mirror := none

def pool0 : Array CpInfo := pool [(5, u "<init>"), (0, u "()V"), (1, .class_ 10), (1, u "java/lang/Object")] 113

def k0c0 : Code := { maxStack := 0, maxLocals := 1, code := object_method_1_code, exceptionTable := #[], attributes := #[] }
def k0m0 : Method := { name := "<init>", desc := "()V", sig := { parameters := [], returnType := none }, accessFlags := 1, code := some k0c0 }
/-- java/lang/Object -/
def k0 : Class := { plain "java/lang/Object" none with
  accessFlags := 33
  interfaces := #[]
  cf := some (fileOf pool0 8 #[] #[{ accessFlags := 1, nameIndex := 5, descriptorIndex := 6, attributes := #[] }] 33 0 #[] #[])
  fields := #[]
  methods := #[k0m0]
  instanceTypes := #[]
  staticTypes := #[]
  resolved := Array.replicate 124 none
  statics := none }

def pool1 : Array CpInfo := pool [(2, .class_ 4), (0, .nameAndType 5 6), (0, u "java/lang/Object"), (0, u "<init>"), (0, u "()V"), (2, .long 2147483647), (1, .integer 2147483647), (0, .long 18446744071562067968), (1, .integer 2147483648), (0, .methodref 16 17), (0, .class_ 18), (0, .nameAndType 19 20), (0, u "com/example/urd/urd/causes/EdgesFirstPinLaw"), (0, u "sat"), (0, u "(J)I"), (0, .class_ 22), (0, u "com/example/urd/urd/causes/Edges"), (0, .methodref 21 3), (0, .methodref 21 25), (0, .nameAndType 26 27), (0, u "add"), (0, u "(III)V"), (0, .methodref 16 29), (0, .nameAndType 30 31), (0, u "below"), (0, u "(ZII)I"), (0, .methodref 21 33), (0, .nameAndType 34 35), (0, u "first"), (0, u "(I)I"), (3, u "law"), (0, u "(IIIII)Z")] 2

def k1m0 : Method := { name := "<init>", desc := "()V", sig := { parameters := [], returnType := none }, accessFlags := 1, code := none }
def k1c1 : Code := { maxStack := 4, maxLocals := 2, code := method_2_code, exceptionTable := #[], attributes := #[] }
def k1m1 : Method := { name := "sat", desc := "(J)I", sig := { parameters := [.long], returnType := some .int }, accessFlags := 10, code := some k1c1 }
def k1c2 : Code := { maxStack := 2, maxLocals := 3, code := method_3_code, exceptionTable := #[], attributes := #[] }
def k1m2 : Method := { name := "below", desc := "(ZII)I", sig := { parameters := [.boolean, .int, .int], returnType := some .int }, accessFlags := 10, code := some k1c2 }
def k1c3 : Code := { maxStack := 4, maxLocals := 14, code := code, exceptionTable := #[], attributes := #[] }
def k1m3 : Method := { name := "law", desc := "(IIIII)Z", sig := { parameters := [.int, .int, .int, .int, .int], returnType := some .boolean }, accessFlags := 9, code := some k1c3 }
/-- com/example/urd/urd/causes/EdgesFirstPinLaw -/
def k1 : Class := { plain "com/example/urd/urd/causes/EdgesFirstPinLaw" (some 0) with
  accessFlags := 49
  interfaces := #[]
  cf := some (fileOf pool1 16 #[] #[{ accessFlags := 1, nameIndex := 5, descriptorIndex := 6, attributes := #[] }, { accessFlags := 10, nameIndex := 19, descriptorIndex := 20, attributes := #[] }, { accessFlags := 10, nameIndex := 30, descriptorIndex := 31, attributes := #[] }, { accessFlags := 9, nameIndex := 39, descriptorIndex := 40, attributes := #[] }] 49 2 #[] #[])
  fields := #[]
  methods := #[k1m0, k1m1, k1m2, k1m3]
  instanceTypes := #[]
  staticTypes := #[]
  resolved := Array.replicate 43 none
  statics := none }

def pool2 : Array CpInfo := pool [(1, .methodref 2 3), (0, .class_ 4), (0, .nameAndType 5 6), (0, u "java/lang/Object"), (0, u "<init>"), (0, u "()V"), (0, .fieldref 8 9), (0, .class_ 10), (0, .nameAndType 11 12), (0, u "com/example/urd/urd/causes/Edges"), (0, u "from"), (0, u "[I"), (0, .fieldref 8 14), (0, .nameAndType 15 12), (0, u "event"), (0, .fieldref 8 17), (0, .nameAndType 18 12), (0, u "to"), (4, u "size"), (8, .fieldref 8 33), (0, .nameAndType 23 34), (0, u "I"), (26, u "END"), (11, u "add"), (0, u "(III)V"), (0, u "(I)I"), (0, u "first")] 17

def k2c0 : Code := { maxStack := 2, maxLocals := 1, code := prog_6_method_1_code, exceptionTable := #[], attributes := #[] }
def k2m0 : Method := { name := "<init>", desc := "()V", sig := { parameters := [], returnType := none }, accessFlags := 0, code := some k2c0 }
def k2c1 : Code := { maxStack := 6, maxLocals := 4, code := prog_6_method_3_code, exceptionTable := #[], attributes := #[] }
def k2m1 : Method := { name := "add", desc := "(III)V", sig := { parameters := [.int, .int, .int], returnType := none }, accessFlags := 0, code := some k2c1 }
def k2c2 : Code := { maxStack := 2, maxLocals := 5, code := prog_6_method_6_code, exceptionTable := #[], attributes := #[] }
def k2m2 : Method := { name := "first", desc := "(I)I", sig := { parameters := [.int], returnType := some .int }, accessFlags := 0, code := some k2c2 }
/-- com/example/urd/urd/causes/Edges -/
def k2 : Class := { plain "com/example/urd/urd/causes/Edges" (some 0) with
  accessFlags := 32
  interfaces := #[]
  cf := some (fileOf pool2 8 #[] #[{ accessFlags := 0, nameIndex := 5, descriptorIndex := 6, attributes := #[] }, { accessFlags := 0, nameIndex := 73, descriptorIndex := 74, attributes := #[] }, { accessFlags := 0, nameIndex := 76, descriptorIndex := 75, attributes := #[] }] 32 2 #[] #[{ accessFlags := 24, nameIndex := 61, descriptorIndex := 34, attributes := #[] }, { accessFlags := 2, nameIndex := 11, descriptorIndex := 12, attributes := #[] }, { accessFlags := 2, nameIndex := 15, descriptorIndex := 12, attributes := #[] }, { accessFlags := 2, nameIndex := 18, descriptorIndex := 12, attributes := #[] }, { accessFlags := 2, nameIndex := 23, descriptorIndex := 34, attributes := #[] }])
  fields := #[{ name := "END", type := .int, accessFlags := 24, slot := 0, constantValue := 0 }, { name := "from", type := (.array .int), accessFlags := 2, slot := 0, constantValue := 0 }, { name := "event", type := (.array .int), accessFlags := 2, slot := 1, constantValue := 0 }, { name := "to", type := (.array .int), accessFlags := 2, slot := 2, constantValue := 0 }, { name := "size", type := .int, accessFlags := 2, slot := 3, constantValue := 0 }]
  methods := #[k2m0, k2m1, k2m2]
  instanceTypes := #[(.array .int), (.array .int), (.array .int), .int]
  staticTypes := #[.int]
  resolved := Array.replicate 94 none
  statics := none }

def pool3 : Array CpInfo := pool [(1, u "java/lang/Cloneable"), (0, .class_ 1), (0, u "java/lang/Object"), (0, .class_ 3)] 3

/-- java/lang/Cloneable -/
def k3 : Class := { plain "java/lang/Cloneable" (some 0) with
  accessFlags := 1537
  interfaces := #[]
  cf := some (fileOf pool3 2 #[] #[] 1537 4 #[] #[])
  fields := #[]
  methods := #[]
  instanceTypes := #[]
  staticTypes := #[]
  resolved := Array.replicate 8 none
  statics := none }

def pool4 : Array CpInfo := pool [(1, u "java/io/Serializable"), (0, .class_ 1), (0, u "java/lang/Object"), (0, .class_ 3)] 3

/-- java/io/Serializable -/
def k4 : Class := { plain "java/io/Serializable" (some 0) with
  accessFlags := 1537
  interfaces := #[]
  cf := some (fileOf pool4 2 #[] #[] 1537 4 #[] #[])
  fields := #[]
  methods := #[]
  instanceTypes := #[]
  staticTypes := #[]
  resolved := Array.replicate 8 none
  statics := none }

/-- the primitive byte -/
def k5 : Class := { plain "byte" none with kind := .primitive 'B', accessFlags := 0x411 }
/-- [B -/
def k6 : Class := { plain "[B" (some 0) with kind := .array 5 .byte, interfaces := #[3, 4], accessFlags := 1041 }

/-- the primitive int -/
def k7 : Class := { plain "int" none with kind := .primitive 'I', accessFlags := 0x411 }
/-- [I -/
def k8 : Class := { plain "[I" (some 0) with kind := .array 7 .int, interfaces := #[3, 4], accessFlags := 1041 }

def heap : Heap := #[]
def classes : Array Class := #[k0, k1, k2, k3, k4, k5, k6, k7, k8]
def interned : List (Array UInt16 × Addr) := []
def slotsUsed : Nat := 0
def theMethod : MethodId := ⟨1, 3⟩
def args0 : Array Value := #[.int 7, .int 1, .int 2, .int 3, .int 4]
def aboutOver (below : List Frame) : State where
  vm := { classes := classes, interned := interned.toArray }
  heap := heap
  slotsUsed := slotsUsed
  threads := #[{ frames := .invoking theMethod args0 :: below }]
def below0 : List Frame := [.native { method := ⟨0, 0⟩, args := #[] }]
def about1 : State := aboutOver below0
def p0 : Program := .bare "" "" ""
def e0 : Env := launch0.env 0 0 0
theorem w_frames : about1.frames = Frame.invoking theMethod args0 :: below0 := rfl
set_option maxRecDepth 65536 in
theorem w_args : argsFit about1.vm theMethod args0 = true := by decide +kernel
set_option maxRecDepth 65536 in
theorem w_heap : heapFits about1 = true := by decide +kernel
set_option maxRecDepth 65536 in
theorem w_runnable : about1.curStatus? = some .runnable := by decide +kernel
set_option maxRecDepth 65536 in
theorem w_alone : about1.alone = true := by decide +kernel
set_option maxRecDepth 65536 in
theorem w_named : about1.methodNamed? x = some theMethod := by decide +kernel
set_option maxRecDepth 65536 in
theorem w_hears : about1.hears theMethod below0 = true := by decide +kernel
set_option maxRecDepth 65536 in
theorem w_ripe : about1.ripe theMethod args0 below0 = true := by decide +kernel
theorem w_running : about1.status = .running := rfl
set_option maxRecDepth 65536 in
theorem w_room : about1.hasRoom e0.platform room_1 = true :=
  launch0.hasRoom_least _ room_1 (by decide +kernel) (by decide +kernel) (by decide +kernel) (by decide +kernel) (by decide +kernel) (by decide +kernel)
theorem allAtoms_all (ts : List Jvm.Cond) (a : Array Jvm.Value) (st : Jvm.State) : (allAtoms ts).before a st = ts.all (fun c => c.before a st) := by
  induction ts with
  | nil => rfl
  | cons c t ih =>
    show (Jvm.Cond.and c (allAtoms t)).before a st = _
    rw [Jvm.Cond.before_and, ih, List.all_cons]
def words1 : List Jvm.Cond := Jvm.Cond.code x code maxLocals ret :: tables_1
/-- a 'code' word, met by the world's own term for the bytes: nothing is compared byte by byte -/
theorem code_word {y : MethodName} {bytes : ByteArray} {mx : Nat} {rt : Option FieldType} {a : Array Value} {s : State} {m : MethodId} {meth : Method} {c : Code} (h1 : s.methodNamed? y = some m) (h2 : s.vm.method? m = some meth) (h3 : meth.code = some c) (h4 : c.code = bytes)
    (h5 : (c.maxLocals == mx && c.exceptionTable.isEmpty && decide (c.maxStack ≤ mostOperands) && decide (meth.sig.returnType = rt) && !meth.locks && decide (parseMethodDescriptor y.desc = some meth.sig)) = true) : (Jvm.Cond.code y bytes mx rt).before a s = true := by
  simp only [Bool.and_eq_true, beq_iff_eq, Bool.not_eq_true', decide_eq_true_eq] at h5
  obtain ⟨⟨⟨⟨⟨g1, g2⟩, g3⟩, g4⟩, g5⟩, g6⟩ := h5
  simp [Cond.before, Cond.holds, Cond.value, h1, h2, h3, h4, g1, g2, g3, g4, g5, g6]
def isCode : Jvm.Cond → Bool
  | .code _ _ _ _ => true
  | _ => false
theorem all_split {L : List Jvm.Cond} {P : Jvm.Cond → Bool} (h1 : L.all (fun c => isCode c || P c) = true) (h2 : ∀ c ∈ L.filter isCode, P c = true) : L.all P = true := by
  refine List.all_eq_true.mpr fun c hc => ?_
  have h := List.all_eq_true.mp h1 c hc
  rcases Bool.eq_false_or_eq_true (isCode c) with hi | hi
  · exact h2 c (List.mem_filter.mpr ⟨hc, hi⟩)
  · simpa [hi] using h
set_option maxRecDepth 65536 in
theorem w_c0 : (Jvm.Cond.code x code maxLocals ret).before args0 about1 = true := code_word (m := ⟨1, 3⟩) (meth := k1m3) (c := k1c3) (by decide +kernel) rfl rfl rfl (by decide +kernel)
set_option maxRecDepth 65536 in
theorem w_c1 : (Jvm.Cond.code ({ cls := "com/example/urd/urd/causes/EdgesFirstPinLaw", name := "sat", desc := "(J)I" } : Jvm.MethodName) method_2_code (2 : Nat) (Option.some Jvm.ClassFile.FieldType.int)).before args0 about1 = true := code_word (m := ⟨1, 1⟩) (meth := k1m1) (c := k1c1) (by decide +kernel) rfl rfl rfl (by decide +kernel)
set_option maxRecDepth 65536 in
theorem w_c2 : (Jvm.Cond.code ({ cls := "com/example/urd/urd/causes/Edges", name := "<init>", desc := "()V" } : Jvm.MethodName) prog_6_method_1_code (1 : Nat) (Option.none : Option Jvm.ClassFile.FieldType)).before args0 about1 = true := code_word (m := ⟨2, 0⟩) (meth := k2m0) (c := k2c0) (by decide +kernel) rfl rfl rfl (by decide +kernel)
set_option maxRecDepth 65536 in
theorem w_c3 : (Jvm.Cond.code ({ cls := "java/lang/Object", name := "<init>", desc := "()V" } : Jvm.MethodName) object_method_1_code (1 : Nat) (Option.none : Option Jvm.ClassFile.FieldType)).before args0 about1 = true := code_word (m := ⟨0, 0⟩) (meth := k0m0) (c := k0c0) (by decide +kernel) rfl rfl rfl (by decide +kernel)
set_option maxRecDepth 65536 in
theorem w_c4 : (Jvm.Cond.code ({ cls := "com/example/urd/urd/causes/EdgesFirstPinLaw", name := "below", desc := "(ZII)I" } : Jvm.MethodName) method_3_code (3 : Nat) (Option.some Jvm.ClassFile.FieldType.int)).before args0 about1 = true := code_word (m := ⟨1, 2⟩) (meth := k1m2) (c := k1c2) (by decide +kernel) rfl rfl rfl (by decide +kernel)
set_option maxRecDepth 65536 in
theorem w_c5 : (Jvm.Cond.code ({ cls := "com/example/urd/urd/causes/Edges", name := "first", desc := "(I)I" } : Jvm.MethodName) prog_6_method_6_code (5 : Nat) (Option.some Jvm.ClassFile.FieldType.int)).before args0 about1 = true := code_word (m := ⟨2, 2⟩) (meth := k2m2) (c := k2c2) (by decide +kernel) rfl rfl rfl (by decide +kernel)
set_option maxRecDepth 65536 in
theorem w_c6 : (Jvm.Cond.code ({ cls := "com/example/urd/urd/causes/Edges", name := "add", desc := "(III)V" } : Jvm.MethodName) prog_6_method_3_code (4 : Nat) (Option.none : Option Jvm.ClassFile.FieldType)).before args0 about1 = true := code_word (m := ⟨2, 1⟩) (meth := k2m1) (c := k2c1) (by decide +kernel) rfl rfl rfl (by decide +kernel)
def codes1 : List Jvm.Cond := [Jvm.Cond.code x code maxLocals ret, Jvm.Cond.code ({ cls := "com/example/urd/urd/causes/EdgesFirstPinLaw", name := "sat", desc := "(J)I" } : Jvm.MethodName) method_2_code (2 : Nat) (Option.some Jvm.ClassFile.FieldType.int), Jvm.Cond.code ({ cls := "com/example/urd/urd/causes/Edges", name := "<init>", desc := "()V" } : Jvm.MethodName) prog_6_method_1_code (1 : Nat) (Option.none : Option Jvm.ClassFile.FieldType), Jvm.Cond.code ({ cls := "java/lang/Object", name := "<init>", desc := "()V" } : Jvm.MethodName) object_method_1_code (1 : Nat) (Option.none : Option Jvm.ClassFile.FieldType), Jvm.Cond.code ({ cls := "com/example/urd/urd/causes/EdgesFirstPinLaw", name := "below", desc := "(ZII)I" } : Jvm.MethodName) method_3_code (3 : Nat) (Option.some Jvm.ClassFile.FieldType.int), Jvm.Cond.code ({ cls := "com/example/urd/urd/causes/Edges", name := "first", desc := "(I)I" } : Jvm.MethodName) prog_6_method_6_code (5 : Nat) (Option.some Jvm.ClassFile.FieldType.int), Jvm.Cond.code ({ cls := "com/example/urd/urd/causes/Edges", name := "add", desc := "(III)V" } : Jvm.MethodName) prog_6_method_3_code (4 : Nat) (Option.none : Option Jvm.ClassFile.FieldType)]
set_option maxRecDepth 65536 in
theorem codes_eq : words1.filter isCode = codes1 := rfl
theorem w_codes : ∀ c ∈ words1.filter isCode, c.before args0 about1 = true := by
  rw [codes_eq]
  intro c hc
  simp only [codes1, List.mem_cons, List.not_mem_nil, or_false] at hc
  rcases hc with rfl | rfl | rfl | rfl | rfl | rfl | rfl
  · exact w_c0
  · exact w_c1
  · exact w_c2
  · exact w_c3
  · exact w_c4
  · exact w_c5
  · exact w_c6
set_option maxRecDepth 65536 in
theorem w_t1 : (words1.take 24).all (fun c => isCode c || c.before args0 about1) = true := by decide +kernel
set_option maxRecDepth 65536 in
theorem w_t2 : (words1.drop 24).all (fun c => isCode c || c.before args0 about1) = true := by decide +kernel
theorem w_tables : (allAtoms (Jvm.Cond.code x code maxLocals ret :: tables_1)).before args0 about1 = true := by
  rw [allAtoms_all]
  show words1.all (fun c => c.before args0 about1) = true
  refine all_split ?_ w_codes
  rw [← List.take_append_drop 24 words1, List.all_append, w_t1, w_t2]
  rfl
set_option maxRecDepth 65536 in
theorem w_case : (Jvm.Cond.and given_1 narrow_1).before args0 about1 = true := by decide +kernel
theorem w_applies : (headSpec (Jvm.Cond.code x code maxLocals ret :: tables_1) room_1).applies x e0.platform about1 = true :=
  (Spec.applies_iff w_frames).mpr ⟨w_running, w_runnable, w_alone, w_named, w_hears, w_ripe, w_room, w_tables⟩
theorem atStart : AtStart classFile x code maxLocals ret World_1 tables_1 room_1 Calls_1 rest_1 Pre_1 launch0 p0 e0 about1 theMethod args0 below0 :=
  ⟨lists_1, trivial, launch0.admits_env _ _ _, launch0.least_env, fairChoices_fair.cas, fairChoices_fair.clock, w_frames, w_args, w_heap, w_applies, trivial, trivial, w_case⟩
end start1
theorem witness_1 : WitnessClaimed_1 := ⟨start1.p0, start1.e0, start1.about1, start1.theMethod, start1.args0, start1.below0, start1.atStart⟩
end Jvm.Pilot.@@N@@
