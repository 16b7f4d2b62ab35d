import JvmDerived
import JvmDerived.Pilot.@@N@@Statement
import JvmDerived.Pilot.@@N@@Code
set_option linter.unusedVariables false
set_option linter.unusedSimpArgs false
namespace Jvm.Pilot.@@N@@
open Jvm Jvm.ClassFile Sem Op Lib Jvm.Free Jvm.Stand Jvm.LawKit Jvm.RoadKit Bundle Jvm.Pilot.@@N@@.Jvm.D
abbrev Cx : Type := Program × Launch × Env × Room × State × MethodId × Array Value × List Frame × Method × Code
abbrev Cx.p (K : Cx) : Program := K.1
abbrev Cx.l (K : Cx) : Launch := K.2.1
abbrev Cx.e (K : Cx) : Env := K.2.2.1
abbrev Cx.R (K : Cx) : Room := K.2.2.2.1
abbrev Cx.s (K : Cx) : State := K.2.2.2.2.1
abbrev Cx.m (K : Cx) : MethodId := K.2.2.2.2.2.1
abbrev Cx.args (K : Cx) : Array Value := K.2.2.2.2.2.2.1
abbrev Cx.below (K : Cx) : List Frame := K.2.2.2.2.2.2.2.1
abbrev Cx.meth (K : Cx) : Method := K.2.2.2.2.2.2.2.2.1
abbrev Cx.c (K : Cx) : Code := K.2.2.2.2.2.2.2.2.2
/-- from T at this frame the body ends within the room, and what it leaves is Q's -/
def Go (K : Cx) (n0 kc kj : Nat) (Q : Option Value → Heap → Prop) (T : State) (pc : Nat) (Ls : Array Slot) (st : List Value) : Prop :=
  ∃ t o, Steps K.p.tables K.e K.below (T.setTop (mkF K.m pc Ls st)) t ∧ t.status = .running ∧ Ended t K.below o ∧ ∃ v L, o = .returned v ∧ (Q v t.heap ∧ Fr n0 L) ∧ FrameEnd K.s o t L kc kj
/-- where the walk stands: the body's own facts, the heap, how many cells and slots have been made -/
def St (K : Cx) (Z : State) (own : String) (b : ByteArray) (mx : Nat) (ret : Option FieldType) (rm : Room) (n0 k j : Nat) (T : State) (h : Heap) : Prop :=
  K.p.tables.exec = Jvm.exec ∧ Z.Warmed39 K.s.vm ∧ K.s.vm.findClass own = some K.m.cls ∧ K.c.code = b ∧ K.c.maxLocals = mx ∧ K.meth.sig.returnType = ret ∧ K.meth.locks = false ∧ K.R = rm ∧ T.heap = h ∧
    ∃ locs, Stand K.p K.l K.e K.R K.s K.m K.args K.below K.meth K.c T locs k j ∧ Fr n0 locs
def Isn (b : ByteArray) (pc : Nat) (i : Instr) (n pc' : Nat) : Prop := decode b pc = .ok (i, n) ∧ pc + n = pc'
def Brn (b : ByteArray) (pc : Nat) (i : Instr) (o : Int) (pc' tg : Nat) : Prop := decode b pc = .ok (i, 3) ∧ pc + 3 = pc' ∧ 0 ≤ (pc : Int) + o ∧ ((pc : Int) + o).toNat = tg
/-- a body's contract, at its arguments and heap -/
def CtrW (l : Launch) (Z : State) (y : MethodName) (b : ByteArray) (mx : Nat) (ret : Option FieldType) (ws : List Jvm.Cond) (rm : Room) (kc kj : Nat) (as' : List Value) (h : Heap) (n0 : Nat) (Q : Option Value → Heap → Prop) : Prop :=
  MetFree l y (head1 (Jvm.Cond.code y b mx ret :: ws) rm) (fun a U => a = as'.toArray ∧ Z.Warmed39 U.vm ∧ U.heap = h) (fun _ _ _ _ _ => True) (fun _ U o U' => ∃ v L, o = .returned v ∧ (Q v U'.heap ∧ Fr n0 L) ∧ FrameEnd U o U' L kc kj)
abbrev Ctr (l : Launch) (Z : State) (y : MethodName) (b : ByteArray) (mx : Nat) (ret : Option FieldType) (rm : Room) (as' : List Value) (h : Heap) (n0 : Nat) (Q : Option Value → Heap → Prop) : Prop :=
  CtrW l Z y b mx ret [] rm rm.cells rm.slots as' h n0 Q
section OwnKit
variable {K : Cx} {Z : State} {own : String} {b : ByteArray} {mx : Nat} {ret : Option FieldType} {rm : Room} {n0 k j kc kj : Nat} {T : State} {h : Heap} {Q : Option Value → Heap → Prop} {pc pc' tg : Nat} {Ls Ls' : Array Slot} {st rest : List Value} {a0 : Array Value}
theorem St.ex (X : St K Z own b mx ret rm n0 k j T h) : K.p.tables.exec = Jvm.exec := X.1
theorem St.wZ (X : St K Z own b mx ret rm n0 k j T h) : Z.Warmed39 K.s.vm := X.2.1
theorem St.ow (X : St K Z own b mx ret rm n0 k j T h) : K.s.vm.findClass own = some K.m.cls := X.2.2.1
theorem St.dec (X : St K Z own b mx ret rm n0 k j T h) {r : Except DecodeError (Instr × Nat)} (d : decode b pc = r) : decode K.c.code pc = r := hb X.2.2.2.1 d
theorem St.ml (X : St K Z own b mx ret rm n0 k j T h) : K.c.maxLocals = mx := X.2.2.2.2.1
theorem St.rt (X : St K Z own b mx ret rm n0 k j T h) : K.meth.sig.returnType = ret := X.2.2.2.2.2.1
theorem St.nl (X : St K Z own b mx ret rm n0 k j T h) : K.meth.locks = false := X.2.2.2.2.2.2.1
theorem St.rmE (X : St K Z own b mx ret rm n0 k j T h) : K.R = rm := X.2.2.2.2.2.2.2.1
theorem St.hp (X : St K Z own b mx ret rm n0 k j T h) : T.heap = h := X.2.2.2.2.2.2.2.2.1
theorem St.sd (X : St K Z own b mx ret rm n0 k j T h) : ∃ locs, Stand K.p K.l K.e K.R K.s K.m K.args K.below K.meth K.c T locs k j ∧ Fr n0 locs := X.2.2.2.2.2.2.2.2.2
theorem St.here (X : St K Z own b mx ret rm n0 k j T h) : At T K.m K.c K.below := by obtain ⟨_, S, _⟩ := X.sd; exact S.here
theorem St.mk' (X : St K Z own b mx ret rm n0 k j T h) {T' : State} {h' : Heap} {k' j' : Nat} {locs : List Loc} (S : Stand K.p K.l K.e K.R K.s K.m K.args K.below K.meth K.c T' locs k' j') (N : Fr n0 locs) (q : T'.heap = h') : St K Z own b mx ret rm n0 k' j' T' h' :=
  ⟨X.1, X.2.1, X.2.2.1, X.2.2.2.1, X.2.2.2.2.1, X.2.2.2.2.2.1, X.2.2.2.2.2.2.1, X.2.2.2.2.2.2.2.1, q, _, S, N⟩
theorem St.more (X : St K Z own b mx ret rm n0 k j T h) {k' j' : Nat} (hk : k ≤ k') (hj : j ≤ j') : St K Z own b mx ret rm n0 k' j' T h := by
  obtain ⟨_, S, N⟩ := X.sd; exact X.mk' (S.more hk hj) N X.hp
theorem St.eqh (X : St K Z own b mx ret rm n0 k j T h) {h' : Heap} (q : h = h') : St K Z own b mx ret rm n0 k j T h' := q ▸ X
theorem o_go {T' : State} {st' : List Value} (f : ∀ t, Steps K.p.tables K.e K.below (T'.setTop (mkF K.m pc' Ls' st')) t → Steps K.p.tables K.e K.below (T.setTop (mkF K.m pc Ls st)) t) (g : Go K n0 kc kj Q T' pc' Ls' st') : Go K n0 kc kj Q T pc Ls st := by
  obtain ⟨t, o, h1, h2⟩ := g; exact ⟨t, o, f t h1, h2⟩
theorem Go.imp {Q' : Option Value → Heap → Prop} (g : Go K n0 kc kj Q T pc Ls st) (f : ∀ v h, Q v h → Q' v h) : Go K n0 kc kj Q' T pc Ls st := by
  obtain ⟨t, o, h1, h2, h3, v, L, h4, ⟨h5, h6⟩, h7⟩ := g; exact ⟨t, o, h1, h2, h3, v, L, h4, ⟨f _ _ h5, h6⟩, h7⟩
theorem o_v1 {v : Value} (g : Go K n0 kc kj Q T pc Ls (v :: rest)) : Go K n0 kc kj Q T pc Ls ((some v).toList ++ rest) := g
theorem o_v0 (g : Go K n0 kc kj Q T pc Ls rest) : Go K n0 kc kj Q T pc Ls ((none : Option Value).toList ++ rest) := g
theorem o_st {st' : List Value} (q : st = st') (g : Go K n0 kc kj Q T pc Ls st') : Go K n0 kc kj Q T pc Ls st := q ▸ g
theorem o_gen {x : Int32} (g : ∀ z, z = x → Go K n0 kc kj Q T pc Ls (.int z :: rest)) : Go K n0 kc kj Q T pc Ls (.int x :: rest) := g x rfl
theorem o_genL {x : Int64} (g : ∀ z, z = x → Go K n0 kc kj Q T pc Ls (.long z :: rest)) : Go K n0 kc kj Q T pc Ls (.long x :: rest) := g x rfl
theorem o_cutL (pj : Nat) (z : Int64) {x : Int32} (B : Go K n0 kc kj Q T pj Ls (.long z :: rest) → Go K n0 kc kj Q T pc Ls (.int x :: rest)) (J : Go K n0 kc kj Q T pj Ls (.long z :: rest)) : Go K n0 kc kj Q T pc Ls (.int x :: rest) := B J
theorem o_cutI (pj : Nat) (z : Int32) {x : Int32} (B : Go K n0 kc kj Q T pj Ls (.int z :: rest) → Go K n0 kc kj Q T pc Ls (.int x :: rest)) (J : Go K n0 kc kj Q T pj Ls (.int z :: rest)) : Go K n0 kc kj Q T pc Ls (.int x :: rest) := B J
theorem o_cutI2 (pj : Nat) (z : Int32) {x y : Int32} (B : Go K n0 kc kj Q T pj Ls (.int z :: rest) → Go K n0 kc kj Q T pc Ls (.int y :: .int x :: rest)) (J : Go K n0 kc kj Q T pj Ls (.int z :: rest)) : Go K n0 kc kj Q T pc Ls (.int y :: .int x :: rest) := B J
theorem o_cutS (pj : Nat) {x : Int32} (X : St K Z own b mx ret rm n0 k j T h) (B : (∀ T' z, St K Z own b mx ret rm n0 k j T' h → Go K n0 kc kj Q T' pj Ls (.int z :: rest)) → Go K n0 kc kj Q T pc Ls (.int x :: rest)) (J : ∀ T' z, St K Z own b mx ret rm n0 k j T' h → Go K n0 kc kj Q T' pj Ls (.int z :: rest)) : Go K n0 kc kj Q T pc Ls (.int x :: rest) := B J
theorem o_cutI2L (pj : Nat) (z : Int64) {x y : Int32} (B : Go K n0 kc kj Q T pj Ls (.long z :: rest) → Go K n0 kc kj Q T pc Ls (.int y :: .int x :: rest)) (J : Go K n0 kc kj Q T pj Ls (.long z :: rest)) : Go K n0 kc kj Q T pc Ls (.int y :: .int x :: rest) := B J
theorem o_ls (q : Ls = Ls') (g : Go K n0 kc kj Q T pc Ls' st) : Go K n0 kc kj Q T pc Ls st := q ▸ g
theorem o_iadd (X : St K Z own b mx ret rm n0 k j T h) {x y : Int32} (d : Isn b pc (.iadd) 1 pc') (g : Go K n0 kc kj Q T pc' Ls (.int (x + y) :: rest)) : Go K n0 kc kj Q T pc Ls (.int y :: .int x :: rest) := by
  obtain ⟨d, rfl⟩ := d; exact o_go (fun t k => XS.iadd X.here X.ex rfl (X.dec d) rfl k) g
theorem o_isub (X : St K Z own b mx ret rm n0 k j T h) {x y : Int32} (d : Isn b pc (.isub) 1 pc') (g : Go K n0 kc kj Q T pc' Ls (.int (x - y) :: rest)) : Go K n0 kc kj Q T pc Ls (.int y :: .int x :: rest) := by
  obtain ⟨d, rfl⟩ := d; exact o_go (fun t k => XS.isub X.here X.ex rfl (X.dec d) rfl k) g
theorem o_imul (X : St K Z own b mx ret rm n0 k j T h) {x y : Int32} (d : Isn b pc (.imul) 1 pc') (g : Go K n0 kc kj Q T pc' Ls (.int (x * y) :: rest)) : Go K n0 kc kj Q T pc Ls (.int y :: .int x :: rest) := by
  obtain ⟨d, rfl⟩ := d; exact o_go (fun t k => XS.imul X.here X.ex rfl (X.dec d) rfl k) g
theorem o_iand (X : St K Z own b mx ret rm n0 k j T h) {x y : Int32} (d : Isn b pc (.iand) 1 pc') (g : Go K n0 kc kj Q T pc' Ls (.int (x &&& y) :: rest)) : Go K n0 kc kj Q T pc Ls (.int y :: .int x :: rest) := by
  obtain ⟨d, rfl⟩ := d; exact o_go (fun t k => XS.iand X.here X.ex rfl (X.dec d) rfl k) g
theorem o_ixor (X : St K Z own b mx ret rm n0 k j T h) {x y : Int32} (d : Isn b pc (.ixor) 1 pc') (g : Go K n0 kc kj Q T pc' Ls (.int (x ^^^ y) :: rest)) : Go K n0 kc kj Q T pc Ls (.int y :: .int x :: rest) := by
  obtain ⟨d, rfl⟩ := d; exact o_go (fun t k => XT.ixor X.here X.ex rfl (X.dec d) rfl k) g
theorem o_ior (X : St K Z own b mx ret rm n0 k j T h) {x y : Int32} (d : Isn b pc (.ior) 1 pc') (g : Go K n0 kc kj Q T pc' Ls (.int (x ||| y) :: rest)) : Go K n0 kc kj Q T pc Ls (.int y :: .int x :: rest) := by
  obtain ⟨d, rfl⟩ := d; exact o_go (fun t k => XT.ior X.here X.ex rfl (X.dec d) rfl k) g
theorem o_ishl (X : St K Z own b mx ret rm n0 k j T h) {x y : Int32} (d : Isn b pc (.ishl) 1 pc') (g : Go K n0 kc kj Q T pc' Ls (.int (x <<< (y &&& 31)) :: rest)) : Go K n0 kc kj Q T pc Ls (.int y :: .int x :: rest) := by
  obtain ⟨d, rfl⟩ := d; exact o_go (fun t k => XT.ishl X.here X.ex rfl (X.dec d) rfl k) g
theorem o_ishr (X : St K Z own b mx ret rm n0 k j T h) {x y : Int32} (d : Isn b pc (.ishr) 1 pc') (g : Go K n0 kc kj Q T pc' Ls (.int (x >>> (y &&& 31)) :: rest)) : Go K n0 kc kj Q T pc Ls (.int y :: .int x :: rest) := by
  obtain ⟨d, rfl⟩ := d; exact o_go (fun t k => XT.ishr X.here X.ex rfl (X.dec d) rfl k) g
theorem o_iushr (X : St K Z own b mx ret rm n0 k j T h) {x y : Int32} (d : Isn b pc (.iushr) 1 pc') (g : Go K n0 kc kj Q T pc' Ls (.int (XT.ushr x y) :: rest)) : Go K n0 kc kj Q T pc Ls (.int y :: .int x :: rest) := by
  obtain ⟨d, rfl⟩ := d; exact o_go (fun t k => XT.iushr X.here X.ex rfl (X.dec d) rfl k) g
theorem o_ladd (X : St K Z own b mx ret rm n0 k j T h) {x y : Int64} (d : Isn b pc (.ladd) 1 pc') (g : Go K n0 kc kj Q T pc' Ls (.long (x + y) :: rest)) : Go K n0 kc kj Q T pc Ls (.long y :: .long x :: rest) := by
  obtain ⟨d, rfl⟩ := d; exact o_go (fun t k => XT.ladd X.here X.ex rfl (X.dec d) rfl k) g
theorem o_lsub (X : St K Z own b mx ret rm n0 k j T h) {x y : Int64} (d : Isn b pc (.lsub) 1 pc') (g : Go K n0 kc kj Q T pc' Ls (.long (x - y) :: rest)) : Go K n0 kc kj Q T pc Ls (.long y :: .long x :: rest) := by
  obtain ⟨d, rfl⟩ := d; exact o_go (fun t k => XT.lsub X.here X.ex rfl (X.dec d) rfl k) g
theorem o_lmul (X : St K Z own b mx ret rm n0 k j T h) {x y : Int64} (d : Isn b pc (.lmul) 1 pc') (g : Go K n0 kc kj Q T pc' Ls (.long (x * y) :: rest)) : Go K n0 kc kj Q T pc Ls (.long y :: .long x :: rest) := by
  obtain ⟨d, rfl⟩ := d; exact o_go (fun t k => XT.lmul X.here X.ex rfl (X.dec d) rfl k) g
theorem o_land (X : St K Z own b mx ret rm n0 k j T h) {x y : Int64} (d : Isn b pc (.land) 1 pc') (g : Go K n0 kc kj Q T pc' Ls (.long (x &&& y) :: rest)) : Go K n0 kc kj Q T pc Ls (.long y :: .long x :: rest) := by
  obtain ⟨d, rfl⟩ := d; exact o_go (fun t k => XT.land X.here X.ex rfl (X.dec d) rfl k) g
theorem o_lor (X : St K Z own b mx ret rm n0 k j T h) {x y : Int64} (d : Isn b pc (.lor) 1 pc') (g : Go K n0 kc kj Q T pc' Ls (.long (x ||| y) :: rest)) : Go K n0 kc kj Q T pc Ls (.long y :: .long x :: rest) := by
  obtain ⟨d, rfl⟩ := d; exact o_go (fun t k => XT.lor X.here X.ex rfl (X.dec d) rfl k) g
theorem o_lxor (X : St K Z own b mx ret rm n0 k j T h) {x y : Int64} (d : Isn b pc (.lxor) 1 pc') (g : Go K n0 kc kj Q T pc' Ls (.long (x ^^^ y) :: rest)) : Go K n0 kc kj Q T pc Ls (.long y :: .long x :: rest) := by
  obtain ⟨d, rfl⟩ := d; exact o_go (fun t k => XT.lxor X.here X.ex rfl (X.dec d) rfl k) g
theorem o_lshl (X : St K Z own b mx ret rm n0 k j T h) {x : Int64} {y : Int32} (d : Isn b pc (.lshl) 1 pc') (g : Go K n0 kc kj Q T pc' Ls (.long (x <<< (y.toInt64 &&& 63)) :: rest)) : Go K n0 kc kj Q T pc Ls (.int y :: .long x :: rest) := by
  obtain ⟨d, rfl⟩ := d; exact o_go (fun t k => XT.lshl X.here X.ex rfl (X.dec d) rfl k) g
theorem o_lshr (X : St K Z own b mx ret rm n0 k j T h) {x : Int64} {y : Int32} (d : Isn b pc (.lshr) 1 pc') (g : Go K n0 kc kj Q T pc' Ls (.long (x >>> (y.toInt64 &&& 63)) :: rest)) : Go K n0 kc kj Q T pc Ls (.int y :: .long x :: rest) := by
  obtain ⟨d, rfl⟩ := d; exact o_go (fun t k => XT.lshr X.here X.ex rfl (X.dec d) rfl k) g
theorem o_lushr (X : St K Z own b mx ret rm n0 k j T h) {x : Int64} {y : Int32} (d : Isn b pc (.lushr) 1 pc') (g : Go K n0 kc kj Q T pc' Ls (.long (XT.ushrL x y) :: rest)) : Go K n0 kc kj Q T pc Ls (.int y :: .long x :: rest) := by
  obtain ⟨d, rfl⟩ := d; exact o_go (fun t k => XT.lushr X.here X.ex rfl (X.dec d) rfl k) g
theorem o_lcmp (X : St K Z own b mx ret rm n0 k j T h) {x y : Int64} (d : Isn b pc (.lcmp) 1 pc') (g : Go K n0 kc kj Q T pc' Ls (.int (XT.cmpL x y) :: rest)) : Go K n0 kc kj Q T pc Ls (.long y :: .long x :: rest) := by
  obtain ⟨d, rfl⟩ := d; exact o_go (fun t k => XT.lcmp X.here X.ex rfl (X.dec d) rfl k) g
theorem o_idiv (X : St K Z own b mx ret rm n0 k j T h) {x y : Int32} (d : Isn b pc (.idiv) 1 pc') (hy : y ≠ 0) (g : Go K n0 kc kj Q T pc' Ls (.int (x / y) :: rest)) : Go K n0 kc kj Q T pc Ls (.int y :: .int x :: rest) := by
  obtain ⟨d, rfl⟩ := d; exact o_go (fun t k => XS.idiv X.here X.ex rfl (X.dec d) rfl hy k) g
theorem o_ldiv (X : St K Z own b mx ret rm n0 k j T h) {x y : Int64} (d : Isn b pc (.ldiv) 1 pc') (hy : y ≠ 0) (g : Go K n0 kc kj Q T pc' Ls (.long (x / y) :: rest)) : Go K n0 kc kj Q T pc Ls (.long y :: .long x :: rest) := by
  obtain ⟨d, rfl⟩ := d; exact o_go (fun t k => XT.ldiv X.here X.ex rfl (X.dec d) rfl hy k) g
theorem o_irem (X : St K Z own b mx ret rm n0 k j T h) {x y : Int32} (d : Isn b pc .irem 1 pc') (hy : y ≠ 0) (g : Go K n0 kc kj Q T pc' Ls (.int (x % y) :: rest)) : Go K n0 kc kj Q T pc Ls (.int y :: .int x :: rest) := by
  obtain ⟨d, rfl⟩ := d; obtain ⟨_, S, _⟩ := X.sd; exact o_go (fun t k => iremM S X.ex rfl (X.dec d) rfl hy k) g
theorem o_lrem (X : St K Z own b mx ret rm n0 k j T h) {x y : Int64} (d : Isn b pc .lrem 1 pc') (hy : y ≠ 0) (g : Go K n0 kc kj Q T pc' Ls (.long (x % y) :: rest)) : Go K n0 kc kj Q T pc Ls (.long y :: .long x :: rest) := by
  obtain ⟨d, rfl⟩ := d; rw [← lrem_mod] at g; exact o_go (fun t k => XT.lrem X.here X.ex rfl (X.dec d) rfl hy k) g
theorem o_i2l (X : St K Z own b mx ret rm n0 k j T h) {x : Int32} (d : Isn b pc (.i2l) 1 pc') (g : Go K n0 kc kj Q T pc' Ls (.long (x.toInt64) :: rest)) : Go K n0 kc kj Q T pc Ls (.int x :: rest) := by
  obtain ⟨d, rfl⟩ := d; exact o_go (fun t k => XT.i2l X.here X.ex rfl (X.dec d) rfl k) g
theorem o_l2i (X : St K Z own b mx ret rm n0 k j T h) {x : Int64} (d : Isn b pc (.l2i) 1 pc') (g : Go K n0 kc kj Q T pc' Ls (.int (x.toInt32) :: rest)) : Go K n0 kc kj Q T pc Ls (.long x :: rest) := by
  obtain ⟨d, rfl⟩ := d; exact o_go (fun t k => XT.l2i X.here X.ex rfl (X.dec d) rfl k) g
theorem o_i2b (X : St K Z own b mx ret rm n0 k j T h) {x : Int32} (d : Isn b pc (.i2b) 1 pc') (g : Go K n0 kc kj Q T pc' Ls (.int (x.toInt8.toInt32) :: rest)) : Go K n0 kc kj Q T pc Ls (.int x :: rest) := by
  obtain ⟨d, rfl⟩ := d; exact o_go (fun t k => XT.i2b X.here X.ex rfl (X.dec d) rfl k) g
theorem o_i2c (X : St K Z own b mx ret rm n0 k j T h) {x : Int32} (d : Isn b pc (.i2c) 1 pc') (g : Go K n0 kc kj Q T pc' Ls (.int (x.toUInt32.toUInt16.toUInt32.toInt32) :: rest)) : Go K n0 kc kj Q T pc Ls (.int x :: rest) := by
  obtain ⟨d, rfl⟩ := d; exact o_go (fun t k => XT.i2c X.here X.ex rfl (X.dec d) rfl k) g
theorem o_i2s (X : St K Z own b mx ret rm n0 k j T h) {x : Int32} (d : Isn b pc (.i2s) 1 pc') (g : Go K n0 kc kj Q T pc' Ls (.int (x.toInt16.toInt32) :: rest)) : Go K n0 kc kj Q T pc Ls (.int x :: rest) := by
  obtain ⟨d, rfl⟩ := d; exact o_go (fun t k => XT.i2s X.here X.ex rfl (X.dec d) rfl k) g
theorem o_ineg (X : St K Z own b mx ret rm n0 k j T h) {x : Int32} (d : Isn b pc (.ineg) 1 pc') (g : Go K n0 kc kj Q T pc' Ls (.int (-x) :: rest)) : Go K n0 kc kj Q T pc Ls (.int x :: rest) := by
  obtain ⟨d, rfl⟩ := d; exact o_go (fun t k => XS.ineg X.here X.ex rfl (X.dec d) rfl k) g
theorem o_lneg (X : St K Z own b mx ret rm n0 k j T h) {x : Int64} (d : Isn b pc (.lneg) 1 pc') (g : Go K n0 kc kj Q T pc' Ls (.long (-x) :: rest)) : Go K n0 kc kj Q T pc Ls (.long x :: rest) := by
  obtain ⟨d, rfl⟩ := d; exact o_go (fun t k => XT.lneg X.here X.ex rfl (X.dec d) rfl k) g
theorem o_iload_n (X : St K Z own b mx ret rm n0 k j T h) {i : Fin 4} {v : Int32} (d : Isn b pc (.iload_n i) 1 pc') (hl : Ls[i.val]? = some (.val (.int v))) (g : Go K n0 kc kj Q T pc' Ls (.int v :: st)) : Go K n0 kc kj Q T pc Ls (st) := by
  obtain ⟨d, rfl⟩ := d; exact o_go (fun t k => XS.iloadN X.here X.ex rfl (X.dec d) hl k) g
theorem o_iload (X : St K Z own b mx ret rm n0 k j T h) {i : Nat} {v : Int32} (d : Isn b pc (.iload i) 2 pc') (hl : Ls[i]? = some (.val (.int v))) (g : Go K n0 kc kj Q T pc' Ls (.int v :: st)) : Go K n0 kc kj Q T pc Ls (st) := by
  obtain ⟨d, rfl⟩ := d; exact o_go (fun t k => XS.iload X.here X.ex rfl (X.dec d) hl k) g
theorem o_lload_n (X : St K Z own b mx ret rm n0 k j T h) {i : Fin 4} {v : Int64} (d : Isn b pc (.lload_n i) 1 pc') (hl : Ls[i.val]? = some (.val (.long v))) (g : Go K n0 kc kj Q T pc' Ls (.long v :: st)) : Go K n0 kc kj Q T pc Ls (st) := by
  obtain ⟨d, rfl⟩ := d; exact o_go (fun t k => XT.lloadN X.here X.ex rfl (X.dec d) hl k) g
theorem o_lload (X : St K Z own b mx ret rm n0 k j T h) {i : Nat} {v : Int64} (d : Isn b pc (.lload i) 2 pc') (hl : Ls[i]? = some (.val (.long v))) (g : Go K n0 kc kj Q T pc' Ls (.long v :: st)) : Go K n0 kc kj Q T pc Ls (st) := by
  obtain ⟨d, rfl⟩ := d; exact o_go (fun t k => XT.lload X.here X.ex rfl (X.dec d) hl k) g
theorem o_aload_n (X : St K Z own b mx ret rm n0 k j T h) {i : Fin 4} {v : Value} (d : Isn b pc (.aload_n i) 1 pc') (hl : Ls[i.val]? = some (.val v)) (hv : v.isRef = true) (g : Go K n0 kc kj Q T pc' Ls (v :: st)) : Go K n0 kc kj Q T pc Ls (st) := by
  obtain ⟨d, rfl⟩ := d; exact o_go (fun t k => XS.aloadN X.here X.ex rfl (X.dec d) hl hv k) g
theorem o_aload (X : St K Z own b mx ret rm n0 k j T h) {i : Nat} {v : Value} (d : Isn b pc (.aload i) 2 pc') (hl : Ls[i]? = some (.val v)) (hv : v.isRef = true) (g : Go K n0 kc kj Q T pc' Ls (v :: st)) : Go K n0 kc kj Q T pc Ls (st) := by
  obtain ⟨d, rfl⟩ := d; exact o_go (fun t k => XS.aload X.here X.ex rfl (X.dec d) hl hv k) g
theorem o_istore_n (X : St K Z own b mx ret rm n0 k j T h) {i : Fin 4} {x : Int32} (d : Isn b pc (.istore_n i) 1 pc') (hl : storeLocals Ls i.val (.int x) = some Ls') (g : Go K n0 kc kj Q T pc' Ls' (rest)) : Go K n0 kc kj Q T pc Ls (.int x :: rest) := by
  obtain ⟨d, rfl⟩ := d; exact o_go (fun t k => XS.istoreN X.here X.ex rfl (X.dec d) rfl hl k) g
theorem o_istore (X : St K Z own b mx ret rm n0 k j T h) {i : Nat} {x : Int32} (d : Isn b pc (.istore i) 2 pc') (hl : storeLocals Ls i (.int x) = some Ls') (g : Go K n0 kc kj Q T pc' Ls' (rest)) : Go K n0 kc kj Q T pc Ls (.int x :: rest) := by
  obtain ⟨d, rfl⟩ := d; exact o_go (fun t k => XS.istore X.here X.ex rfl (X.dec d) rfl hl k) g
theorem o_lstore_n (X : St K Z own b mx ret rm n0 k j T h) {i : Fin 4} {x : Int64} (d : Isn b pc (.lstore_n i) 1 pc') (hl : storeLocals Ls i.val (.long x) = some Ls') (g : Go K n0 kc kj Q T pc' Ls' (rest)) : Go K n0 kc kj Q T pc Ls (.long x :: rest) := by
  obtain ⟨d, rfl⟩ := d; exact o_go (fun t k => XT.lstoreN X.here X.ex rfl (X.dec d) rfl hl k) g
theorem o_lstore (X : St K Z own b mx ret rm n0 k j T h) {i : Nat} {x : Int64} (d : Isn b pc (.lstore i) 2 pc') (hl : storeLocals Ls i (.long x) = some Ls') (g : Go K n0 kc kj Q T pc' Ls' (rest)) : Go K n0 kc kj Q T pc Ls (.long x :: rest) := by
  obtain ⟨d, rfl⟩ := d; exact o_go (fun t k => XT.lstore X.here X.ex rfl (X.dec d) rfl hl k) g
theorem o_istoreO (X : St K Z own b mx ret rm n0 k j T h) {i : Nat} {x : Int32} {o : Slot} (d : Isn b pc (.istore i) 2 pc') (hold : Ls[i]? = some o) (ho : o = .unset ∨ ∃ w, o = .val w ∧ w.category = 1) (hl : Ls.setIfInBounds i (.val (.int x)) = Ls') (g : Go K n0 kc kj Q T pc' Ls' (rest)) : Go K n0 kc kj Q T pc Ls (.int x :: rest) := by
  obtain ⟨d, rfl⟩ := d; subst hl; exact o_go (fun t k => XS.istoreS X.here X.ex rfl (X.dec d) rfl hold ho k) g
theorem o_astore_n (X : St K Z own b mx ret rm n0 k j T h) {i : Fin 4} {x : Value} (d : Isn b pc (.astore_n i) 1 pc') (hv : x.isRef = true) (hl : storeLocals Ls i.val x = some Ls') (g : Go K n0 kc kj Q T pc' Ls' (rest)) : Go K n0 kc kj Q T pc Ls (x :: rest) := by
  obtain ⟨d, rfl⟩ := d; exact o_go (fun t k => XS.astoreN X.here X.ex rfl (X.dec d) rfl hv hl k) g
theorem o_astore (X : St K Z own b mx ret rm n0 k j T h) {i : Nat} {x : Value} (d : Isn b pc (.astore i) 2 pc') (hv : x.isRef = true) (hl : storeLocals Ls i x = some Ls') (g : Go K n0 kc kj Q T pc' Ls' (rest)) : Go K n0 kc kj Q T pc Ls (x :: rest) := by
  obtain ⟨d, rfl⟩ := d; exact o_go (fun t k => XS.astore X.here X.ex rfl (X.dec d) rfl hv hl k) g
theorem o_iconst (v : Int32) (X : St K Z own b mx ret rm n0 k j T h) {i : Int} (d : Isn b pc (.iconst i) 1 pc') (hv : Int32.ofInt i = v) (g : Go K n0 kc kj Q T pc' Ls (.int v :: st)) : Go K n0 kc kj Q T pc Ls (st) := by
  obtain ⟨d, rfl⟩ := d; exact o_go (fun t k => XT.iconstV X.here X.ex rfl v (X.dec d) hv k) g
theorem o_bipush (v : Int32) (X : St K Z own b mx ret rm n0 k j T h) {i : Int} (d : Isn b pc (.bipush i) 2 pc') (hv : (Int8.ofInt i).toInt32 = v) (g : Go K n0 kc kj Q T pc' Ls (.int v :: st)) : Go K n0 kc kj Q T pc Ls (st) := by
  obtain ⟨d, rfl⟩ := d; exact o_go (fun t k => XT.bipushV X.here X.ex rfl v (X.dec d) hv k) g
theorem o_sipush (v : Int32) (X : St K Z own b mx ret rm n0 k j T h) {i : Int} (d : Isn b pc (.sipush i) 3 pc') (hv : (Int16.ofInt i).toInt32 = v) (g : Go K n0 kc kj Q T pc' Ls (.int v :: st)) : Go K n0 kc kj Q T pc Ls (st) := by
  obtain ⟨d, rfl⟩ := d; exact o_go (fun t k => XT.sipushV X.here X.ex rfl v (X.dec d) hv k) g
theorem o_lconst (v : Int64) (X : St K Z own b mx ret rm n0 k j T h) {i : Fin 2} (d : Isn b pc (.lconst i) 1 pc') (hv : Int64.ofNat i = v) (g : Go K n0 kc kj Q T pc' Ls (.long v :: st)) : Go K n0 kc kj Q T pc Ls (st) := by
  obtain ⟨d, rfl⟩ := d; exact o_go (fun t k => XT.lconstV X.here X.ex rfl v (X.dec d) hv k) g
theorem o_aconst_null (X : St K Z own b mx ret rm n0 k j T h)  (d : Isn b pc (.aconst_null) 1 pc') (g : Go K n0 kc kj Q T pc' Ls (.null :: st)) : Go K n0 kc kj Q T pc Ls (st) := by
  obtain ⟨d, rfl⟩ := d; exact o_go (fun t k => XS.aconstNull X.here X.ex rfl (X.dec d)  k) g
theorem o_iinc (v : Int32) (X : St K Z own b mx ret rm n0 k j T h) {i : Nat} {cst : Int} {x : Int32} (d : Isn b pc (.iinc i cst) 3 pc') (hv : Int32.ofInt cst = v) (hl : Ls[i]? = some (.val (.int x))) (hl' : storeLocals Ls i (.int (x + v)) = some Ls') (g : Go K n0 kc kj Q T pc' Ls' (st)) : Go K n0 kc kj Q T pc Ls (st) := by
  obtain ⟨d, rfl⟩ := d; exact o_go (fun t k => XT.iincV X.here X.ex rfl v (X.dec d) hv hl hl' k) g
theorem o_ldc (X : St K Z own b mx ret rm n0 k j T h) {i : Nat} {v : Int32} (d : Isn b pc (.ldc i) 2 pc') (wd : (Jvm.Cond.constant own i v).before a0 Z = true) (g : Go K n0 kc kj Q T pc' Ls (.int v :: st)) : Go K n0 kc kj Q T pc Ls (st) := by
  obtain ⟨d, rfl⟩ := d; obtain ⟨_, S, _⟩ := X.sd; exact o_go (fun t k => S.ldcI X.ex X.ow (mvT X.wZ wd) rfl (X.dec d) k) g
theorem o_ldc2 (X : St K Z own b mx ret rm n0 k j T h) {i : Nat} {v : Int64} (d : Isn b pc (.ldc2_w i) 3 pc') (wd : (Jvm.Cond.constantLong own i v).before a0 Z = true) (g : Go K n0 kc kj Q T pc' Ls (.long v :: st)) : Go K n0 kc kj Q T pc Ls (st) := by
  obtain ⟨d, rfl⟩ := d; obtain ⟨_, S, _⟩ := X.sd; exact o_go (fun t k => S.ldc2J X.ex X.ow (mvT X.wZ wd) rfl (X.dec d) k) g
theorem o_dup (X : St K Z own b mx ret rm n0 k j T h) {x : Value} (d : Isn b pc (.dup) 1 pc') (hc : x.category = 1) (g : Go K n0 kc kj Q T pc' Ls (x :: x :: rest)) : Go K n0 kc kj Q T pc Ls (x :: rest) := by
  obtain ⟨d, rfl⟩ := d; exact o_go (fun t k => XS.dup X.here X.ex rfl (X.dec d) rfl hc k) g
theorem o_pop (X : St K Z own b mx ret rm n0 k j T h) {x : Value} (d : Isn b pc (.pop) 1 pc') (hc : x.category = 1) (g : Go K n0 kc kj Q T pc' Ls (rest)) : Go K n0 kc kj Q T pc Ls (x :: rest) := by
  obtain ⟨d, rfl⟩ := d; exact o_go (fun t k => XT.pop X.here X.ex rfl (X.dec d) rfl hc k) g
theorem o_dup2 (X : St K Z own b mx ret rm n0 k j T h) {x y : Value} (d : Isn b pc (.dup2) 1 pc') (hc : x.category = 1) (hc' : y.category = 1) (g : Go K n0 kc kj Q T pc' Ls (x :: y :: x :: y :: rest)) : Go K n0 kc kj Q T pc Ls (x :: y :: rest) := by
  obtain ⟨d, rfl⟩ := d; exact o_go (fun t k => XT.dup2 X.here X.ex rfl (X.dec d) rfl hc hc' k) g
theorem o_dup_x1 (X : St K Z own b mx ret rm n0 k j T h) {x y : Value} (d : Isn b pc (.dup_x1) 1 pc') (hc : x.category = 1) (hc' : y.category = 1) (g : Go K n0 kc kj Q T pc' Ls (x :: y :: x :: rest)) : Go K n0 kc kj Q T pc Ls (x :: y :: rest) := by
  obtain ⟨d, rfl⟩ := d; exact o_go (fun t k => XT.dupX1 X.here X.ex rfl (X.dec d) rfl hc hc' k) g
theorem o_dup2L (X : St K Z own b mx ret rm n0 k j T h) {x : Int64} (d : Isn b pc (.dup2) 1 pc') (g : Go K n0 kc kj Q T pc' Ls (.long x :: .long x :: rest)) : Go K n0 kc kj Q T pc Ls (.long x :: rest) := by
  obtain ⟨d, rfl⟩ := d; exact o_go (fun t k => XT.dup2L X.here X.ex rfl (X.dec d) rfl k) g
theorem o_goto (X : St K Z own b mx ret rm n0 k j T h) {o : Int} (d : Brn b pc (.goto o) o pc' tg) (g : Go K n0 kc kj Q T tg Ls (st)) : Go K n0 kc kj Q T pc Ls (st) := by
  obtain ⟨d, rfl, h1, h2⟩ := d; exact o_go (fun t k => XS.goto X.here X.ex rfl rfl (X.dec d) h1 h2 k) g
theorem o_icmp_eq_t (X : St K Z own b mx ret rm n0 k j T h) {x y : Int32} {o : Int} (d : Brn b pc (.if_icmp .eq o) o pc' tg) (q : x = y) (g : Go K n0 kc kj Q T tg Ls (rest)) : Go K n0 kc kj Q T pc Ls (.int y :: .int x :: rest) := by
  obtain ⟨d, rfl, h1, h2⟩ := d; exact o_go (fun t k => XS.icmpYes X.here X.ex rfl rfl (X.dec d) rfl (XT.ii_eq_t q) h1 h2 k) g
theorem o_icmp_eq_f (X : St K Z own b mx ret rm n0 k j T h) {x y : Int32} {o : Int} (d : Brn b pc (.if_icmp .eq o) o pc' tg) (q : ¬ x = y) (g : Go K n0 kc kj Q T pc' Ls (rest)) : Go K n0 kc kj Q T pc Ls (.int y :: .int x :: rest) := by
  obtain ⟨d, rfl, h1, h2⟩ := d; exact o_go (fun t k => XS.icmpNo X.here X.ex rfl (X.dec d) rfl (XT.ii_eq_f q) k) g
theorem o_icmp_eq (X : St K Z own b mx ret rm n0 k j T h) {x y : Int32} {o : Int} (d : Brn b pc (.if_icmp .eq o) o pc' tg) (gt : x = y → Go K n0 kc kj Q T tg Ls (rest)) (gf : ¬ x = y → Go K n0 kc kj Q T pc' Ls (rest)) : Go K n0 kc kj Q T pc Ls (.int y :: .int x :: rest) := by
  by_cases q : x = y
  · exact o_icmp_eq_t X d q (gt q)
  · exact o_icmp_eq_f X d q (gf q)
theorem o_if_eq_t (X : St K Z own b mx ret rm n0 k j T h) {x : Int32} {o : Int} (d : Brn b pc (.ifCond .eq o) o pc' tg) (q : x = 0) (g : Go K n0 kc kj Q T tg Ls (rest)) : Go K n0 kc kj Q T pc Ls (.int x :: rest) := by
  obtain ⟨d, rfl, h1, h2⟩ := d; exact o_go (fun t k => XS.ifYes X.here X.ex rfl rfl (X.dec d) rfl (XT.i0_eq_t q) h1 h2 k) g
theorem o_if_eq_f (X : St K Z own b mx ret rm n0 k j T h) {x : Int32} {o : Int} (d : Brn b pc (.ifCond .eq o) o pc' tg) (q : ¬ x = 0) (g : Go K n0 kc kj Q T pc' Ls (rest)) : Go K n0 kc kj Q T pc Ls (.int x :: rest) := by
  obtain ⟨d, rfl, h1, h2⟩ := d; exact o_go (fun t k => XS.ifNo X.here X.ex rfl (X.dec d) rfl (XT.i0_eq_f q) k) g
theorem o_if_eq (X : St K Z own b mx ret rm n0 k j T h) {x : Int32} {o : Int} (d : Brn b pc (.ifCond .eq o) o pc' tg) (gt : x = 0 → Go K n0 kc kj Q T tg Ls (rest)) (gf : ¬ x = 0 → Go K n0 kc kj Q T pc' Ls (rest)) : Go K n0 kc kj Q T pc Ls (.int x :: rest) := by
  by_cases q : x = 0
  · exact o_if_eq_t X d q (gt q)
  · exact o_if_eq_f X d q (gf q)
theorem o_lif_eq_t (X : St K Z own b mx ret rm n0 k j T h) {x y : Int64} {o : Int} (d : Brn b pc (.ifCond .eq o) o pc' tg) (q : x = y) (g : Go K n0 kc kj Q T tg Ls (rest)) : Go K n0 kc kj Q T pc Ls (.int (XT.cmpL x y) :: rest) := by
  obtain ⟨d, rfl, h1, h2⟩ := d; exact o_go (fun t k => XS.ifYes X.here X.ex rfl rfl (X.dec d) rfl (XT.ll_eq_t q) h1 h2 k) g
theorem o_lif_eq_f (X : St K Z own b mx ret rm n0 k j T h) {x y : Int64} {o : Int} (d : Brn b pc (.ifCond .eq o) o pc' tg) (q : ¬ x = y) (g : Go K n0 kc kj Q T pc' Ls (rest)) : Go K n0 kc kj Q T pc Ls (.int (XT.cmpL x y) :: rest) := by
  obtain ⟨d, rfl, h1, h2⟩ := d; exact o_go (fun t k => XS.ifNo X.here X.ex rfl (X.dec d) rfl (XT.ll_eq_f q) k) g
theorem o_lif_eq (X : St K Z own b mx ret rm n0 k j T h) {x y : Int64} {o : Int} (d : Brn b pc (.ifCond .eq o) o pc' tg) (gt : x = y → Go K n0 kc kj Q T tg Ls (rest)) (gf : ¬ x = y → Go K n0 kc kj Q T pc' Ls (rest)) : Go K n0 kc kj Q T pc Ls (.int (XT.cmpL x y) :: rest) := by
  by_cases q : x = y
  · exact o_lif_eq_t X d q (gt q)
  · exact o_lif_eq_f X d q (gf q)
theorem o_icmp_ne_t (X : St K Z own b mx ret rm n0 k j T h) {x y : Int32} {o : Int} (d : Brn b pc (.if_icmp .ne o) o pc' tg) (q : ¬ x = y) (g : Go K n0 kc kj Q T tg Ls (rest)) : Go K n0 kc kj Q T pc Ls (.int y :: .int x :: rest) := by
  obtain ⟨d, rfl, h1, h2⟩ := d; exact o_go (fun t k => XS.icmpYes X.here X.ex rfl rfl (X.dec d) rfl (XT.ii_ne_t q) h1 h2 k) g
theorem o_icmp_ne_f (X : St K Z own b mx ret rm n0 k j T h) {x y : Int32} {o : Int} (d : Brn b pc (.if_icmp .ne o) o pc' tg) (q : x = y) (g : Go K n0 kc kj Q T pc' Ls (rest)) : Go K n0 kc kj Q T pc Ls (.int y :: .int x :: rest) := by
  obtain ⟨d, rfl, h1, h2⟩ := d; exact o_go (fun t k => XS.icmpNo X.here X.ex rfl (X.dec d) rfl (XT.ii_ne_f q) k) g
theorem o_icmp_ne (X : St K Z own b mx ret rm n0 k j T h) {x y : Int32} {o : Int} (d : Brn b pc (.if_icmp .ne o) o pc' tg) (gt : ¬ x = y → Go K n0 kc kj Q T tg Ls (rest)) (gf : x = y → Go K n0 kc kj Q T pc' Ls (rest)) : Go K n0 kc kj Q T pc Ls (.int y :: .int x :: rest) := by
  by_cases q : x = y
  · exact o_icmp_ne_f X d q (gf q)
  · exact o_icmp_ne_t X d q (gt q)
theorem o_if_ne_t (X : St K Z own b mx ret rm n0 k j T h) {x : Int32} {o : Int} (d : Brn b pc (.ifCond .ne o) o pc' tg) (q : ¬ x = 0) (g : Go K n0 kc kj Q T tg Ls (rest)) : Go K n0 kc kj Q T pc Ls (.int x :: rest) := by
  obtain ⟨d, rfl, h1, h2⟩ := d; exact o_go (fun t k => XS.ifYes X.here X.ex rfl rfl (X.dec d) rfl (XT.i0_ne_t q) h1 h2 k) g
theorem o_if_ne_f (X : St K Z own b mx ret rm n0 k j T h) {x : Int32} {o : Int} (d : Brn b pc (.ifCond .ne o) o pc' tg) (q : x = 0) (g : Go K n0 kc kj Q T pc' Ls (rest)) : Go K n0 kc kj Q T pc Ls (.int x :: rest) := by
  obtain ⟨d, rfl, h1, h2⟩ := d; exact o_go (fun t k => XS.ifNo X.here X.ex rfl (X.dec d) rfl (XT.i0_ne_f q) k) g
theorem o_if_ne (X : St K Z own b mx ret rm n0 k j T h) {x : Int32} {o : Int} (d : Brn b pc (.ifCond .ne o) o pc' tg) (gt : ¬ x = 0 → Go K n0 kc kj Q T tg Ls (rest)) (gf : x = 0 → Go K n0 kc kj Q T pc' Ls (rest)) : Go K n0 kc kj Q T pc Ls (.int x :: rest) := by
  by_cases q : x = 0
  · exact o_if_ne_f X d q (gf q)
  · exact o_if_ne_t X d q (gt q)
theorem o_lif_ne_t (X : St K Z own b mx ret rm n0 k j T h) {x y : Int64} {o : Int} (d : Brn b pc (.ifCond .ne o) o pc' tg) (q : ¬ x = y) (g : Go K n0 kc kj Q T tg Ls (rest)) : Go K n0 kc kj Q T pc Ls (.int (XT.cmpL x y) :: rest) := by
  obtain ⟨d, rfl, h1, h2⟩ := d; exact o_go (fun t k => XS.ifYes X.here X.ex rfl rfl (X.dec d) rfl (XT.ll_ne_t q) h1 h2 k) g
theorem o_lif_ne_f (X : St K Z own b mx ret rm n0 k j T h) {x y : Int64} {o : Int} (d : Brn b pc (.ifCond .ne o) o pc' tg) (q : x = y) (g : Go K n0 kc kj Q T pc' Ls (rest)) : Go K n0 kc kj Q T pc Ls (.int (XT.cmpL x y) :: rest) := by
  obtain ⟨d, rfl, h1, h2⟩ := d; exact o_go (fun t k => XS.ifNo X.here X.ex rfl (X.dec d) rfl (XT.ll_ne_f q) k) g
theorem o_lif_ne (X : St K Z own b mx ret rm n0 k j T h) {x y : Int64} {o : Int} (d : Brn b pc (.ifCond .ne o) o pc' tg) (gt : ¬ x = y → Go K n0 kc kj Q T tg Ls (rest)) (gf : x = y → Go K n0 kc kj Q T pc' Ls (rest)) : Go K n0 kc kj Q T pc Ls (.int (XT.cmpL x y) :: rest) := by
  by_cases q : x = y
  · exact o_lif_ne_f X d q (gf q)
  · exact o_lif_ne_t X d q (gt q)
theorem o_icmp_lt_t (X : St K Z own b mx ret rm n0 k j T h) {x y : Int32} {o : Int} (d : Brn b pc (.if_icmp .lt o) o pc' tg) (q : x < y) (g : Go K n0 kc kj Q T tg Ls (rest)) : Go K n0 kc kj Q T pc Ls (.int y :: .int x :: rest) := by
  obtain ⟨d, rfl, h1, h2⟩ := d; exact o_go (fun t k => XS.icmpYes X.here X.ex rfl rfl (X.dec d) rfl (XT.ii_lt_t q) h1 h2 k) g
theorem o_icmp_lt_f (X : St K Z own b mx ret rm n0 k j T h) {x y : Int32} {o : Int} (d : Brn b pc (.if_icmp .lt o) o pc' tg) (q : ¬ x < y) (g : Go K n0 kc kj Q T pc' Ls (rest)) : Go K n0 kc kj Q T pc Ls (.int y :: .int x :: rest) := by
  obtain ⟨d, rfl, h1, h2⟩ := d; exact o_go (fun t k => XS.icmpNo X.here X.ex rfl (X.dec d) rfl (XT.ii_lt_f q) k) g
theorem o_icmp_lt (X : St K Z own b mx ret rm n0 k j T h) {x y : Int32} {o : Int} (d : Brn b pc (.if_icmp .lt o) o pc' tg) (gt : x < y → Go K n0 kc kj Q T tg Ls (rest)) (gf : ¬ x < y → Go K n0 kc kj Q T pc' Ls (rest)) : Go K n0 kc kj Q T pc Ls (.int y :: .int x :: rest) := by
  by_cases q : x < y
  · exact o_icmp_lt_t X d q (gt q)
  · exact o_icmp_lt_f X d q (gf q)
theorem o_if_lt_t (X : St K Z own b mx ret rm n0 k j T h) {x : Int32} {o : Int} (d : Brn b pc (.ifCond .lt o) o pc' tg) (q : x < 0) (g : Go K n0 kc kj Q T tg Ls (rest)) : Go K n0 kc kj Q T pc Ls (.int x :: rest) := by
  obtain ⟨d, rfl, h1, h2⟩ := d; exact o_go (fun t k => XS.ifYes X.here X.ex rfl rfl (X.dec d) rfl (XT.i0_lt_t q) h1 h2 k) g
theorem o_if_lt_f (X : St K Z own b mx ret rm n0 k j T h) {x : Int32} {o : Int} (d : Brn b pc (.ifCond .lt o) o pc' tg) (q : ¬ x < 0) (g : Go K n0 kc kj Q T pc' Ls (rest)) : Go K n0 kc kj Q T pc Ls (.int x :: rest) := by
  obtain ⟨d, rfl, h1, h2⟩ := d; exact o_go (fun t k => XS.ifNo X.here X.ex rfl (X.dec d) rfl (XT.i0_lt_f q) k) g
theorem o_if_lt (X : St K Z own b mx ret rm n0 k j T h) {x : Int32} {o : Int} (d : Brn b pc (.ifCond .lt o) o pc' tg) (gt : x < 0 → Go K n0 kc kj Q T tg Ls (rest)) (gf : ¬ x < 0 → Go K n0 kc kj Q T pc' Ls (rest)) : Go K n0 kc kj Q T pc Ls (.int x :: rest) := by
  by_cases q : x < 0
  · exact o_if_lt_t X d q (gt q)
  · exact o_if_lt_f X d q (gf q)
theorem o_lif_lt_t (X : St K Z own b mx ret rm n0 k j T h) {x y : Int64} {o : Int} (d : Brn b pc (.ifCond .lt o) o pc' tg) (q : x < y) (g : Go K n0 kc kj Q T tg Ls (rest)) : Go K n0 kc kj Q T pc Ls (.int (XT.cmpL x y) :: rest) := by
  obtain ⟨d, rfl, h1, h2⟩ := d; exact o_go (fun t k => XS.ifYes X.here X.ex rfl rfl (X.dec d) rfl (XT.ll_lt_t q) h1 h2 k) g
theorem o_lif_lt_f (X : St K Z own b mx ret rm n0 k j T h) {x y : Int64} {o : Int} (d : Brn b pc (.ifCond .lt o) o pc' tg) (q : ¬ x < y) (g : Go K n0 kc kj Q T pc' Ls (rest)) : Go K n0 kc kj Q T pc Ls (.int (XT.cmpL x y) :: rest) := by
  obtain ⟨d, rfl, h1, h2⟩ := d; exact o_go (fun t k => XS.ifNo X.here X.ex rfl (X.dec d) rfl (XT.ll_lt_f q) k) g
theorem o_lif_lt (X : St K Z own b mx ret rm n0 k j T h) {x y : Int64} {o : Int} (d : Brn b pc (.ifCond .lt o) o pc' tg) (gt : x < y → Go K n0 kc kj Q T tg Ls (rest)) (gf : ¬ x < y → Go K n0 kc kj Q T pc' Ls (rest)) : Go K n0 kc kj Q T pc Ls (.int (XT.cmpL x y) :: rest) := by
  by_cases q : x < y
  · exact o_lif_lt_t X d q (gt q)
  · exact o_lif_lt_f X d q (gf q)
theorem o_icmp_ge_t (X : St K Z own b mx ret rm n0 k j T h) {x y : Int32} {o : Int} (d : Brn b pc (.if_icmp .ge o) o pc' tg) (q : ¬ x < y) (g : Go K n0 kc kj Q T tg Ls (rest)) : Go K n0 kc kj Q T pc Ls (.int y :: .int x :: rest) := by
  obtain ⟨d, rfl, h1, h2⟩ := d; exact o_go (fun t k => XS.icmpYes X.here X.ex rfl rfl (X.dec d) rfl (XT.ii_ge_t q) h1 h2 k) g
theorem o_icmp_ge_f (X : St K Z own b mx ret rm n0 k j T h) {x y : Int32} {o : Int} (d : Brn b pc (.if_icmp .ge o) o pc' tg) (q : x < y) (g : Go K n0 kc kj Q T pc' Ls (rest)) : Go K n0 kc kj Q T pc Ls (.int y :: .int x :: rest) := by
  obtain ⟨d, rfl, h1, h2⟩ := d; exact o_go (fun t k => XS.icmpNo X.here X.ex rfl (X.dec d) rfl (XT.ii_ge_f q) k) g
theorem o_icmp_ge (X : St K Z own b mx ret rm n0 k j T h) {x y : Int32} {o : Int} (d : Brn b pc (.if_icmp .ge o) o pc' tg) (gt : ¬ x < y → Go K n0 kc kj Q T tg Ls (rest)) (gf : x < y → Go K n0 kc kj Q T pc' Ls (rest)) : Go K n0 kc kj Q T pc Ls (.int y :: .int x :: rest) := by
  by_cases q : x < y
  · exact o_icmp_ge_f X d q (gf q)
  · exact o_icmp_ge_t X d q (gt q)
theorem o_if_ge_t (X : St K Z own b mx ret rm n0 k j T h) {x : Int32} {o : Int} (d : Brn b pc (.ifCond .ge o) o pc' tg) (q : ¬ x < 0) (g : Go K n0 kc kj Q T tg Ls (rest)) : Go K n0 kc kj Q T pc Ls (.int x :: rest) := by
  obtain ⟨d, rfl, h1, h2⟩ := d; exact o_go (fun t k => XS.ifYes X.here X.ex rfl rfl (X.dec d) rfl (XT.i0_ge_t q) h1 h2 k) g
theorem o_if_ge_f (X : St K Z own b mx ret rm n0 k j T h) {x : Int32} {o : Int} (d : Brn b pc (.ifCond .ge o) o pc' tg) (q : x < 0) (g : Go K n0 kc kj Q T pc' Ls (rest)) : Go K n0 kc kj Q T pc Ls (.int x :: rest) := by
  obtain ⟨d, rfl, h1, h2⟩ := d; exact o_go (fun t k => XS.ifNo X.here X.ex rfl (X.dec d) rfl (XT.i0_ge_f q) k) g
theorem o_if_ge (X : St K Z own b mx ret rm n0 k j T h) {x : Int32} {o : Int} (d : Brn b pc (.ifCond .ge o) o pc' tg) (gt : ¬ x < 0 → Go K n0 kc kj Q T tg Ls (rest)) (gf : x < 0 → Go K n0 kc kj Q T pc' Ls (rest)) : Go K n0 kc kj Q T pc Ls (.int x :: rest) := by
  by_cases q : x < 0
  · exact o_if_ge_f X d q (gf q)
  · exact o_if_ge_t X d q (gt q)
theorem o_lif_ge_t (X : St K Z own b mx ret rm n0 k j T h) {x y : Int64} {o : Int} (d : Brn b pc (.ifCond .ge o) o pc' tg) (q : ¬ x < y) (g : Go K n0 kc kj Q T tg Ls (rest)) : Go K n0 kc kj Q T pc Ls (.int (XT.cmpL x y) :: rest) := by
  obtain ⟨d, rfl, h1, h2⟩ := d; exact o_go (fun t k => XS.ifYes X.here X.ex rfl rfl (X.dec d) rfl (XT.ll_ge_t q) h1 h2 k) g
theorem o_lif_ge_f (X : St K Z own b mx ret rm n0 k j T h) {x y : Int64} {o : Int} (d : Brn b pc (.ifCond .ge o) o pc' tg) (q : x < y) (g : Go K n0 kc kj Q T pc' Ls (rest)) : Go K n0 kc kj Q T pc Ls (.int (XT.cmpL x y) :: rest) := by
  obtain ⟨d, rfl, h1, h2⟩ := d; exact o_go (fun t k => XS.ifNo X.here X.ex rfl (X.dec d) rfl (XT.ll_ge_f q) k) g
theorem o_lif_ge (X : St K Z own b mx ret rm n0 k j T h) {x y : Int64} {o : Int} (d : Brn b pc (.ifCond .ge o) o pc' tg) (gt : ¬ x < y → Go K n0 kc kj Q T tg Ls (rest)) (gf : x < y → Go K n0 kc kj Q T pc' Ls (rest)) : Go K n0 kc kj Q T pc Ls (.int (XT.cmpL x y) :: rest) := by
  by_cases q : x < y
  · exact o_lif_ge_f X d q (gf q)
  · exact o_lif_ge_t X d q (gt q)
theorem o_icmp_gt_t (X : St K Z own b mx ret rm n0 k j T h) {x y : Int32} {o : Int} (d : Brn b pc (.if_icmp .gt o) o pc' tg) (q : y < x) (g : Go K n0 kc kj Q T tg Ls (rest)) : Go K n0 kc kj Q T pc Ls (.int y :: .int x :: rest) := by
  obtain ⟨d, rfl, h1, h2⟩ := d; exact o_go (fun t k => XS.icmpYes X.here X.ex rfl rfl (X.dec d) rfl (XT.ii_gt_t q) h1 h2 k) g
theorem o_icmp_gt_f (X : St K Z own b mx ret rm n0 k j T h) {x y : Int32} {o : Int} (d : Brn b pc (.if_icmp .gt o) o pc' tg) (q : ¬ y < x) (g : Go K n0 kc kj Q T pc' Ls (rest)) : Go K n0 kc kj Q T pc Ls (.int y :: .int x :: rest) := by
  obtain ⟨d, rfl, h1, h2⟩ := d; exact o_go (fun t k => XS.icmpNo X.here X.ex rfl (X.dec d) rfl (XT.ii_gt_f q) k) g
theorem o_icmp_gt (X : St K Z own b mx ret rm n0 k j T h) {x y : Int32} {o : Int} (d : Brn b pc (.if_icmp .gt o) o pc' tg) (gt : y < x → Go K n0 kc kj Q T tg Ls (rest)) (gf : ¬ y < x → Go K n0 kc kj Q T pc' Ls (rest)) : Go K n0 kc kj Q T pc Ls (.int y :: .int x :: rest) := by
  by_cases q : y < x
  · exact o_icmp_gt_t X d q (gt q)
  · exact o_icmp_gt_f X d q (gf q)
theorem o_if_gt_t (X : St K Z own b mx ret rm n0 k j T h) {x : Int32} {o : Int} (d : Brn b pc (.ifCond .gt o) o pc' tg) (q : 0 < x) (g : Go K n0 kc kj Q T tg Ls (rest)) : Go K n0 kc kj Q T pc Ls (.int x :: rest) := by
  obtain ⟨d, rfl, h1, h2⟩ := d; exact o_go (fun t k => XS.ifYes X.here X.ex rfl rfl (X.dec d) rfl (XT.i0_gt_t q) h1 h2 k) g
theorem o_if_gt_f (X : St K Z own b mx ret rm n0 k j T h) {x : Int32} {o : Int} (d : Brn b pc (.ifCond .gt o) o pc' tg) (q : ¬ 0 < x) (g : Go K n0 kc kj Q T pc' Ls (rest)) : Go K n0 kc kj Q T pc Ls (.int x :: rest) := by
  obtain ⟨d, rfl, h1, h2⟩ := d; exact o_go (fun t k => XS.ifNo X.here X.ex rfl (X.dec d) rfl (XT.i0_gt_f q) k) g
theorem o_if_gt (X : St K Z own b mx ret rm n0 k j T h) {x : Int32} {o : Int} (d : Brn b pc (.ifCond .gt o) o pc' tg) (gt : 0 < x → Go K n0 kc kj Q T tg Ls (rest)) (gf : ¬ 0 < x → Go K n0 kc kj Q T pc' Ls (rest)) : Go K n0 kc kj Q T pc Ls (.int x :: rest) := by
  by_cases q : 0 < x
  · exact o_if_gt_t X d q (gt q)
  · exact o_if_gt_f X d q (gf q)
theorem o_lif_gt_t (X : St K Z own b mx ret rm n0 k j T h) {x y : Int64} {o : Int} (d : Brn b pc (.ifCond .gt o) o pc' tg) (q : y < x) (g : Go K n0 kc kj Q T tg Ls (rest)) : Go K n0 kc kj Q T pc Ls (.int (XT.cmpL x y) :: rest) := by
  obtain ⟨d, rfl, h1, h2⟩ := d; exact o_go (fun t k => XS.ifYes X.here X.ex rfl rfl (X.dec d) rfl (XT.ll_gt_t q) h1 h2 k) g
theorem o_lif_gt_f (X : St K Z own b mx ret rm n0 k j T h) {x y : Int64} {o : Int} (d : Brn b pc (.ifCond .gt o) o pc' tg) (q : ¬ y < x) (g : Go K n0 kc kj Q T pc' Ls (rest)) : Go K n0 kc kj Q T pc Ls (.int (XT.cmpL x y) :: rest) := by
  obtain ⟨d, rfl, h1, h2⟩ := d; exact o_go (fun t k => XS.ifNo X.here X.ex rfl (X.dec d) rfl (XT.ll_gt_f q) k) g
theorem o_lif_gt (X : St K Z own b mx ret rm n0 k j T h) {x y : Int64} {o : Int} (d : Brn b pc (.ifCond .gt o) o pc' tg) (gt : y < x → Go K n0 kc kj Q T tg Ls (rest)) (gf : ¬ y < x → Go K n0 kc kj Q T pc' Ls (rest)) : Go K n0 kc kj Q T pc Ls (.int (XT.cmpL x y) :: rest) := by
  by_cases q : y < x
  · exact o_lif_gt_t X d q (gt q)
  · exact o_lif_gt_f X d q (gf q)
theorem o_icmp_le_t (X : St K Z own b mx ret rm n0 k j T h) {x y : Int32} {o : Int} (d : Brn b pc (.if_icmp .le o) o pc' tg) (q : ¬ y < x) (g : Go K n0 kc kj Q T tg Ls (rest)) : Go K n0 kc kj Q T pc Ls (.int y :: .int x :: rest) := by
  obtain ⟨d, rfl, h1, h2⟩ := d; exact o_go (fun t k => XS.icmpYes X.here X.ex rfl rfl (X.dec d) rfl (XT.ii_le_t q) h1 h2 k) g
theorem o_icmp_le_f (X : St K Z own b mx ret rm n0 k j T h) {x y : Int32} {o : Int} (d : Brn b pc (.if_icmp .le o) o pc' tg) (q : y < x) (g : Go K n0 kc kj Q T pc' Ls (rest)) : Go K n0 kc kj Q T pc Ls (.int y :: .int x :: rest) := by
  obtain ⟨d, rfl, h1, h2⟩ := d; exact o_go (fun t k => XS.icmpNo X.here X.ex rfl (X.dec d) rfl (XT.ii_le_f q) k) g
theorem o_icmp_le (X : St K Z own b mx ret rm n0 k j T h) {x y : Int32} {o : Int} (d : Brn b pc (.if_icmp .le o) o pc' tg) (gt : ¬ y < x → Go K n0 kc kj Q T tg Ls (rest)) (gf : y < x → Go K n0 kc kj Q T pc' Ls (rest)) : Go K n0 kc kj Q T pc Ls (.int y :: .int x :: rest) := by
  by_cases q : y < x
  · exact o_icmp_le_f X d q (gf q)
  · exact o_icmp_le_t X d q (gt q)
theorem o_if_le_t (X : St K Z own b mx ret rm n0 k j T h) {x : Int32} {o : Int} (d : Brn b pc (.ifCond .le o) o pc' tg) (q : ¬ 0 < x) (g : Go K n0 kc kj Q T tg Ls (rest)) : Go K n0 kc kj Q T pc Ls (.int x :: rest) := by
  obtain ⟨d, rfl, h1, h2⟩ := d; exact o_go (fun t k => XS.ifYes X.here X.ex rfl rfl (X.dec d) rfl (XT.i0_le_t q) h1 h2 k) g
theorem o_if_le_f (X : St K Z own b mx ret rm n0 k j T h) {x : Int32} {o : Int} (d : Brn b pc (.ifCond .le o) o pc' tg) (q : 0 < x) (g : Go K n0 kc kj Q T pc' Ls (rest)) : Go K n0 kc kj Q T pc Ls (.int x :: rest) := by
  obtain ⟨d, rfl, h1, h2⟩ := d; exact o_go (fun t k => XS.ifNo X.here X.ex rfl (X.dec d) rfl (XT.i0_le_f q) k) g
theorem o_if_le (X : St K Z own b mx ret rm n0 k j T h) {x : Int32} {o : Int} (d : Brn b pc (.ifCond .le o) o pc' tg) (gt : ¬ 0 < x → Go K n0 kc kj Q T tg Ls (rest)) (gf : 0 < x → Go K n0 kc kj Q T pc' Ls (rest)) : Go K n0 kc kj Q T pc Ls (.int x :: rest) := by
  by_cases q : 0 < x
  · exact o_if_le_f X d q (gf q)
  · exact o_if_le_t X d q (gt q)
theorem o_lif_le_t (X : St K Z own b mx ret rm n0 k j T h) {x y : Int64} {o : Int} (d : Brn b pc (.ifCond .le o) o pc' tg) (q : ¬ y < x) (g : Go K n0 kc kj Q T tg Ls (rest)) : Go K n0 kc kj Q T pc Ls (.int (XT.cmpL x y) :: rest) := by
  obtain ⟨d, rfl, h1, h2⟩ := d; exact o_go (fun t k => XS.ifYes X.here X.ex rfl rfl (X.dec d) rfl (XT.ll_le_t q) h1 h2 k) g
theorem o_lif_le_f (X : St K Z own b mx ret rm n0 k j T h) {x y : Int64} {o : Int} (d : Brn b pc (.ifCond .le o) o pc' tg) (q : y < x) (g : Go K n0 kc kj Q T pc' Ls (rest)) : Go K n0 kc kj Q T pc Ls (.int (XT.cmpL x y) :: rest) := by
  obtain ⟨d, rfl, h1, h2⟩ := d; exact o_go (fun t k => XS.ifNo X.here X.ex rfl (X.dec d) rfl (XT.ll_le_f q) k) g
theorem o_lif_le (X : St K Z own b mx ret rm n0 k j T h) {x y : Int64} {o : Int} (d : Brn b pc (.ifCond .le o) o pc' tg) (gt : ¬ y < x → Go K n0 kc kj Q T tg Ls (rest)) (gf : y < x → Go K n0 kc kj Q T pc' Ls (rest)) : Go K n0 kc kj Q T pc Ls (.int (XT.cmpL x y) :: rest) := by
  by_cases q : y < x
  · exact o_lif_le_f X d q (gf q)
  · exact o_lif_le_t X d q (gt q)
theorem o_bool_icmp_eq (X : St K Z own b mx ret rm n0 k j T h) {x y : Int32} {o o2 : Int} {pc2 pc3 pj : Nat} (d : Brn b pc (.if_icmp .eq o) o pc' tg) (d1 : Isn b pc' (.iconst 1) 1 pc2) (d2 : Brn b pc2 (.goto o2) o2 pc3 pj) (d3 : Isn b tg (.iconst 0) 1 pj) (g : Go K n0 kc kj Q T pj Ls (.int (if x = y then 0 else 1) :: rest)) : Go K n0 kc kj Q T pc Ls (.int y :: .int x :: rest) := by
  refine o_icmp_eq X d (fun q => o_iconst 0 X d3 rfl ?_) (fun q => o_iconst 1 X d1 rfl (o_goto X d2 ?_))
  · simpa only [q, if_true, if_false] using g
  · simpa only [q, if_true, if_false] using g
theorem o_bool_if_eq (X : St K Z own b mx ret rm n0 k j T h) {x : Int32} {o o2 : Int} {pc2 pc3 pj : Nat} (d : Brn b pc (.ifCond .eq o) o pc' tg) (d1 : Isn b pc' (.iconst 1) 1 pc2) (d2 : Brn b pc2 (.goto o2) o2 pc3 pj) (d3 : Isn b tg (.iconst 0) 1 pj) (g : Go K n0 kc kj Q T pj Ls (.int (if x = 0 then 0 else 1) :: rest)) : Go K n0 kc kj Q T pc Ls (.int x :: rest) := by
  refine o_if_eq X d (fun q => o_iconst 0 X d3 rfl ?_) (fun q => o_iconst 1 X d1 rfl (o_goto X d2 ?_))
  · simpa only [q, if_true, if_false] using g
  · simpa only [q, if_true, if_false] using g
theorem o_bool_lif_eq (X : St K Z own b mx ret rm n0 k j T h) {x y : Int64} {o o2 : Int} {pc2 pc3 pj : Nat} (d : Brn b pc (.ifCond .eq o) o pc' tg) (d1 : Isn b pc' (.iconst 1) 1 pc2) (d2 : Brn b pc2 (.goto o2) o2 pc3 pj) (d3 : Isn b tg (.iconst 0) 1 pj) (g : Go K n0 kc kj Q T pj Ls (.int (if x = y then 0 else 1) :: rest)) : Go K n0 kc kj Q T pc Ls (.int (XT.cmpL x y) :: rest) := by
  refine o_lif_eq X d (fun q => o_iconst 0 X d3 rfl ?_) (fun q => o_iconst 1 X d1 rfl (o_goto X d2 ?_))
  · simpa only [q, if_true, if_false] using g
  · simpa only [q, if_true, if_false] using g
theorem o_bool_icmp_ne (X : St K Z own b mx ret rm n0 k j T h) {x y : Int32} {o o2 : Int} {pc2 pc3 pj : Nat} (d : Brn b pc (.if_icmp .ne o) o pc' tg) (d1 : Isn b pc' (.iconst 1) 1 pc2) (d2 : Brn b pc2 (.goto o2) o2 pc3 pj) (d3 : Isn b tg (.iconst 0) 1 pj) (g : Go K n0 kc kj Q T pj Ls (.int (if x = y then 1 else 0) :: rest)) : Go K n0 kc kj Q T pc Ls (.int y :: .int x :: rest) := by
  refine o_icmp_ne X d (fun q => o_iconst 0 X d3 rfl ?_) (fun q => o_iconst 1 X d1 rfl (o_goto X d2 ?_))
  · simpa only [q, if_true, if_false] using g
  · simpa only [q, if_true, if_false] using g
theorem o_bool_if_ne (X : St K Z own b mx ret rm n0 k j T h) {x : Int32} {o o2 : Int} {pc2 pc3 pj : Nat} (d : Brn b pc (.ifCond .ne o) o pc' tg) (d1 : Isn b pc' (.iconst 1) 1 pc2) (d2 : Brn b pc2 (.goto o2) o2 pc3 pj) (d3 : Isn b tg (.iconst 0) 1 pj) (g : Go K n0 kc kj Q T pj Ls (.int (if x = 0 then 1 else 0) :: rest)) : Go K n0 kc kj Q T pc Ls (.int x :: rest) := by
  refine o_if_ne X d (fun q => o_iconst 0 X d3 rfl ?_) (fun q => o_iconst 1 X d1 rfl (o_goto X d2 ?_))
  · simpa only [q, if_true, if_false] using g
  · simpa only [q, if_true, if_false] using g
theorem o_bool_lif_ne (X : St K Z own b mx ret rm n0 k j T h) {x y : Int64} {o o2 : Int} {pc2 pc3 pj : Nat} (d : Brn b pc (.ifCond .ne o) o pc' tg) (d1 : Isn b pc' (.iconst 1) 1 pc2) (d2 : Brn b pc2 (.goto o2) o2 pc3 pj) (d3 : Isn b tg (.iconst 0) 1 pj) (g : Go K n0 kc kj Q T pj Ls (.int (if x = y then 1 else 0) :: rest)) : Go K n0 kc kj Q T pc Ls (.int (XT.cmpL x y) :: rest) := by
  refine o_lif_ne X d (fun q => o_iconst 0 X d3 rfl ?_) (fun q => o_iconst 1 X d1 rfl (o_goto X d2 ?_))
  · simpa only [q, if_true, if_false] using g
  · simpa only [q, if_true, if_false] using g
theorem o_bool_icmp_lt (X : St K Z own b mx ret rm n0 k j T h) {x y : Int32} {o o2 : Int} {pc2 pc3 pj : Nat} (d : Brn b pc (.if_icmp .lt o) o pc' tg) (d1 : Isn b pc' (.iconst 1) 1 pc2) (d2 : Brn b pc2 (.goto o2) o2 pc3 pj) (d3 : Isn b tg (.iconst 0) 1 pj) (g : Go K n0 kc kj Q T pj Ls (.int (if x < y then 0 else 1) :: rest)) : Go K n0 kc kj Q T pc Ls (.int y :: .int x :: rest) := by
  refine o_icmp_lt X d (fun q => o_iconst 0 X d3 rfl ?_) (fun q => o_iconst 1 X d1 rfl (o_goto X d2 ?_))
  · simpa only [q, if_true, if_false] using g
  · simpa only [q, if_true, if_false] using g
theorem o_bool_if_lt (X : St K Z own b mx ret rm n0 k j T h) {x : Int32} {o o2 : Int} {pc2 pc3 pj : Nat} (d : Brn b pc (.ifCond .lt o) o pc' tg) (d1 : Isn b pc' (.iconst 1) 1 pc2) (d2 : Brn b pc2 (.goto o2) o2 pc3 pj) (d3 : Isn b tg (.iconst 0) 1 pj) (g : Go K n0 kc kj Q T pj Ls (.int (if x < 0 then 0 else 1) :: rest)) : Go K n0 kc kj Q T pc Ls (.int x :: rest) := by
  refine o_if_lt X d (fun q => o_iconst 0 X d3 rfl ?_) (fun q => o_iconst 1 X d1 rfl (o_goto X d2 ?_))
  · simpa only [q, if_true, if_false] using g
  · simpa only [q, if_true, if_false] using g
theorem o_bool_lif_lt (X : St K Z own b mx ret rm n0 k j T h) {x y : Int64} {o o2 : Int} {pc2 pc3 pj : Nat} (d : Brn b pc (.ifCond .lt o) o pc' tg) (d1 : Isn b pc' (.iconst 1) 1 pc2) (d2 : Brn b pc2 (.goto o2) o2 pc3 pj) (d3 : Isn b tg (.iconst 0) 1 pj) (g : Go K n0 kc kj Q T pj Ls (.int (if x < y then 0 else 1) :: rest)) : Go K n0 kc kj Q T pc Ls (.int (XT.cmpL x y) :: rest) := by
  refine o_lif_lt X d (fun q => o_iconst 0 X d3 rfl ?_) (fun q => o_iconst 1 X d1 rfl (o_goto X d2 ?_))
  · simpa only [q, if_true, if_false] using g
  · simpa only [q, if_true, if_false] using g
theorem o_bool_icmp_ge (X : St K Z own b mx ret rm n0 k j T h) {x y : Int32} {o o2 : Int} {pc2 pc3 pj : Nat} (d : Brn b pc (.if_icmp .ge o) o pc' tg) (d1 : Isn b pc' (.iconst 1) 1 pc2) (d2 : Brn b pc2 (.goto o2) o2 pc3 pj) (d3 : Isn b tg (.iconst 0) 1 pj) (g : Go K n0 kc kj Q T pj Ls (.int (if x < y then 1 else 0) :: rest)) : Go K n0 kc kj Q T pc Ls (.int y :: .int x :: rest) := by
  refine o_icmp_ge X d (fun q => o_iconst 0 X d3 rfl ?_) (fun q => o_iconst 1 X d1 rfl (o_goto X d2 ?_))
  · simpa only [q, if_true, if_false] using g
  · simpa only [q, if_true, if_false] using g
theorem o_bool_if_ge (X : St K Z own b mx ret rm n0 k j T h) {x : Int32} {o o2 : Int} {pc2 pc3 pj : Nat} (d : Brn b pc (.ifCond .ge o) o pc' tg) (d1 : Isn b pc' (.iconst 1) 1 pc2) (d2 : Brn b pc2 (.goto o2) o2 pc3 pj) (d3 : Isn b tg (.iconst 0) 1 pj) (g : Go K n0 kc kj Q T pj Ls (.int (if x < 0 then 1 else 0) :: rest)) : Go K n0 kc kj Q T pc Ls (.int x :: rest) := by
  refine o_if_ge X d (fun q => o_iconst 0 X d3 rfl ?_) (fun q => o_iconst 1 X d1 rfl (o_goto X d2 ?_))
  · simpa only [q, if_true, if_false] using g
  · simpa only [q, if_true, if_false] using g
theorem o_bool_lif_ge (X : St K Z own b mx ret rm n0 k j T h) {x y : Int64} {o o2 : Int} {pc2 pc3 pj : Nat} (d : Brn b pc (.ifCond .ge o) o pc' tg) (d1 : Isn b pc' (.iconst 1) 1 pc2) (d2 : Brn b pc2 (.goto o2) o2 pc3 pj) (d3 : Isn b tg (.iconst 0) 1 pj) (g : Go K n0 kc kj Q T pj Ls (.int (if x < y then 1 else 0) :: rest)) : Go K n0 kc kj Q T pc Ls (.int (XT.cmpL x y) :: rest) := by
  refine o_lif_ge X d (fun q => o_iconst 0 X d3 rfl ?_) (fun q => o_iconst 1 X d1 rfl (o_goto X d2 ?_))
  · simpa only [q, if_true, if_false] using g
  · simpa only [q, if_true, if_false] using g
theorem o_bool_icmp_gt (X : St K Z own b mx ret rm n0 k j T h) {x y : Int32} {o o2 : Int} {pc2 pc3 pj : Nat} (d : Brn b pc (.if_icmp .gt o) o pc' tg) (d1 : Isn b pc' (.iconst 1) 1 pc2) (d2 : Brn b pc2 (.goto o2) o2 pc3 pj) (d3 : Isn b tg (.iconst 0) 1 pj) (g : Go K n0 kc kj Q T pj Ls (.int (if y < x then 0 else 1) :: rest)) : Go K n0 kc kj Q T pc Ls (.int y :: .int x :: rest) := by
  refine o_icmp_gt X d (fun q => o_iconst 0 X d3 rfl ?_) (fun q => o_iconst 1 X d1 rfl (o_goto X d2 ?_))
  · simpa only [q, if_true, if_false] using g
  · simpa only [q, if_true, if_false] using g
theorem o_bool_if_gt (X : St K Z own b mx ret rm n0 k j T h) {x : Int32} {o o2 : Int} {pc2 pc3 pj : Nat} (d : Brn b pc (.ifCond .gt o) o pc' tg) (d1 : Isn b pc' (.iconst 1) 1 pc2) (d2 : Brn b pc2 (.goto o2) o2 pc3 pj) (d3 : Isn b tg (.iconst 0) 1 pj) (g : Go K n0 kc kj Q T pj Ls (.int (if 0 < x then 0 else 1) :: rest)) : Go K n0 kc kj Q T pc Ls (.int x :: rest) := by
  refine o_if_gt X d (fun q => o_iconst 0 X d3 rfl ?_) (fun q => o_iconst 1 X d1 rfl (o_goto X d2 ?_))
  · simpa only [q, if_true, if_false] using g
  · simpa only [q, if_true, if_false] using g
theorem o_bool_lif_gt (X : St K Z own b mx ret rm n0 k j T h) {x y : Int64} {o o2 : Int} {pc2 pc3 pj : Nat} (d : Brn b pc (.ifCond .gt o) o pc' tg) (d1 : Isn b pc' (.iconst 1) 1 pc2) (d2 : Brn b pc2 (.goto o2) o2 pc3 pj) (d3 : Isn b tg (.iconst 0) 1 pj) (g : Go K n0 kc kj Q T pj Ls (.int (if y < x then 0 else 1) :: rest)) : Go K n0 kc kj Q T pc Ls (.int (XT.cmpL x y) :: rest) := by
  refine o_lif_gt X d (fun q => o_iconst 0 X d3 rfl ?_) (fun q => o_iconst 1 X d1 rfl (o_goto X d2 ?_))
  · simpa only [q, if_true, if_false] using g
  · simpa only [q, if_true, if_false] using g
theorem o_bool_icmp_le (X : St K Z own b mx ret rm n0 k j T h) {x y : Int32} {o o2 : Int} {pc2 pc3 pj : Nat} (d : Brn b pc (.if_icmp .le o) o pc' tg) (d1 : Isn b pc' (.iconst 1) 1 pc2) (d2 : Brn b pc2 (.goto o2) o2 pc3 pj) (d3 : Isn b tg (.iconst 0) 1 pj) (g : Go K n0 kc kj Q T pj Ls (.int (if y < x then 1 else 0) :: rest)) : Go K n0 kc kj Q T pc Ls (.int y :: .int x :: rest) := by
  refine o_icmp_le X d (fun q => o_iconst 0 X d3 rfl ?_) (fun q => o_iconst 1 X d1 rfl (o_goto X d2 ?_))
  · simpa only [q, if_true, if_false] using g
  · simpa only [q, if_true, if_false] using g
theorem o_bool_if_le (X : St K Z own b mx ret rm n0 k j T h) {x : Int32} {o o2 : Int} {pc2 pc3 pj : Nat} (d : Brn b pc (.ifCond .le o) o pc' tg) (d1 : Isn b pc' (.iconst 1) 1 pc2) (d2 : Brn b pc2 (.goto o2) o2 pc3 pj) (d3 : Isn b tg (.iconst 0) 1 pj) (g : Go K n0 kc kj Q T pj Ls (.int (if 0 < x then 1 else 0) :: rest)) : Go K n0 kc kj Q T pc Ls (.int x :: rest) := by
  refine o_if_le X d (fun q => o_iconst 0 X d3 rfl ?_) (fun q => o_iconst 1 X d1 rfl (o_goto X d2 ?_))
  · simpa only [q, if_true, if_false] using g
  · simpa only [q, if_true, if_false] using g
theorem o_bool_lif_le (X : St K Z own b mx ret rm n0 k j T h) {x y : Int64} {o o2 : Int} {pc2 pc3 pj : Nat} (d : Brn b pc (.ifCond .le o) o pc' tg) (d1 : Isn b pc' (.iconst 1) 1 pc2) (d2 : Brn b pc2 (.goto o2) o2 pc3 pj) (d3 : Isn b tg (.iconst 0) 1 pj) (g : Go K n0 kc kj Q T pj Ls (.int (if y < x then 1 else 0) :: rest)) : Go K n0 kc kj Q T pc Ls (.int (XT.cmpL x y) :: rest) := by
  refine o_lif_le X d (fun q => o_iconst 0 X d3 rfl ?_) (fun q => o_iconst 1 X d1 rfl (o_goto X d2 ?_))
  · simpa only [q, if_true, if_false] using g
  · simpa only [q, if_true, if_false] using g
theorem o_ifnonnull_r (X : St K Z own b mx ret rm n0 k j T h) {a : Addr} {o : Int} (d : Brn b pc (.ifnonnull o) o pc' tg) (g : Go K n0 kc kj Q T tg Ls (rest)) : Go K n0 kc kj Q T pc Ls (.ref a :: rest) := by
  obtain ⟨d, rfl, h1, h2⟩ := d; exact o_go (fun t k => XT.ifnonnullYes X.here X.ex rfl rfl (X.dec d) rfl h1 h2 k) g
theorem o_ifnonnull_0 (X : St K Z own b mx ret rm n0 k j T h) {o : Int} (d : Brn b pc (.ifnonnull o) o pc' tg) (g : Go K n0 kc kj Q T pc' Ls (rest)) : Go K n0 kc kj Q T pc Ls (.null :: rest) := by
  obtain ⟨d, rfl, h1, h2⟩ := d; exact o_go (fun t k => XT.ifnonnullNo X.here X.ex rfl (X.dec d) rfl k) g
theorem o_ifnull_r (X : St K Z own b mx ret rm n0 k j T h) {a : Addr} {o : Int} (d : Brn b pc (.ifnull o) o pc' tg) (g : Go K n0 kc kj Q T pc' Ls (rest)) : Go K n0 kc kj Q T pc Ls (.ref a :: rest) := by
  obtain ⟨d, rfl, h1, h2⟩ := d; exact o_go (fun t k => XS.ifnullNo X.here X.ex rfl (X.dec d) rfl k) g
theorem o_ifnull_0 (X : St K Z own b mx ret rm n0 k j T h) {o : Int} (d : Brn b pc (.ifnull o) o pc' tg) (g : Go K n0 kc kj Q T tg Ls (rest)) : Go K n0 kc kj Q T pc Ls (.null :: rest) := by
  obtain ⟨d, rfl, h1, h2⟩ := d; exact o_go (fun t k => XS.ifnullYes X.here X.ex rfl rfl (X.dec d) rfl h1 h2 k) g
theorem o_leave (X : St K Z own b mx ret rm n0 k j T h) {v : Option Value} (hv : ret = none → v = none) (hk : k ≤ kc) (hj : j ≤ kj) (q : Q v h)
    (f : ∀ fs, (∀ (f : JFrame) (acts : List Action), f.method = K.m → f.locked = none → f.entered = [] → (doReturn K.e (T.setTop f) acts v).1 = T.setFrames fs) → Steps K.p.tables K.e K.below (T.setTop (mkF K.m pc Ls st)) (T.setFrames fs)) : Go K n0 kc kj Q T pc Ls (st) := by
  obtain ⟨locs, S, N⟩ := X.sd
  obtain ⟨fs, hr, hrun, hended, hW, hsame⟩ := S.leave (v := v) (fun q => hv (X.rt.symm.trans q)) X.nl
  have e : (T.setFrames fs).heap = h := X.hp
  exact ⟨_, _, f fs hr, hrun, hended, v, locs, rfl, ⟨e ▸ q, N⟩, ⟨v, rfl⟩, hW, hsame.mono hk hj⟩
theorem o_retI (X : St K Z own b mx (some .int) rm n0 k j T h) {z : Int32} (d : Isn b pc .ireturn 1 pc') (hk : k ≤ kc) (hj : j ≤ kj) (q : Q (some (.int z)) h) : Go K n0 kc kj Q T pc Ls (.int z :: rest) := by
  obtain ⟨_, S, _⟩ := X.sd
  exact o_leave X (fun q => nomatch q) hk hj q fun fs hr => retOut S X.ex X.rt rfl (Or.inl ⟨rfl, Or.inl rfl, z, rfl⟩) (X.dec d.1) hr
theorem o_retL (X : St K Z own b mx (some .long) rm n0 k j T h) {z : Int64} (d : Isn b pc .lreturn 1 pc') (hk : k ≤ kc) (hj : j ≤ kj) (q : Q (some (.long z)) h) : Go K n0 kc kj Q T pc Ls (.long z :: rest) := by
  obtain ⟨_, S, _⟩ := X.sd
  exact o_leave X (fun q => nomatch q) hk hj q fun fs hr => retOut S X.ex X.rt rfl (Or.inr (Or.inl ⟨rfl, rfl, z, rfl⟩)) (X.dec d.1) hr
theorem o_retA {t : FieldType} (X : St K Z own b mx (some t) rm n0 k j T h) {z : Value} (ht : t.isReference = true) (hn : narrow t z = z) (hz : z.isRef = true) (d : Isn b pc .areturn 1 pc') (hk : k ≤ kc) (hj : j ≤ kj) (q : Q (some z) h) : Go K n0 kc kj Q T pc Ls (z :: rest) := by
  obtain ⟨_, S, _⟩ := X.sd
  exact o_leave X (fun q => nomatch q) hk hj q fun fs hr => retOut S X.ex X.rt hn (Or.inr (Or.inr (Or.inr (Or.inr ⟨rfl, ht, hz⟩)))) (X.dec d.1) hr
theorem o_retN {t : FieldType} (X : St K Z own b mx (some t) rm n0 k j T h) {z : Int32} (ht : t = .boolean ∨ t = .byte ∨ t = .char ∨ t = .short) (d : Isn b pc .ireturn 1 pc') (hk : k ≤ kc) (hj : j ≤ kj) (q : Q (some (.int (nar t z))) h) : Go K n0 kc kj Q T pc Ls (.int z :: rest) := by
  obtain ⟨_, S, _⟩ := X.sd
  exact o_leave X (fun q => nomatch q) hk hj q fun fs hr => retN S X.ex X.rt ht (X.dec d.1) hr
theorem o_retZ (X : St K Z own b mx (some .boolean) rm n0 k j T h) {z : Int32} (d : Isn b pc .ireturn 1 pc') (hk : k ≤ kc) (hj : j ≤ kj) (q : Q (some (.int (z &&& 1))) h) : Go K n0 kc kj Q T pc Ls (.int z :: rest) := o_retN X (Or.inl rfl) d hk hj q
theorem o_ret0 (X : St K Z own b mx none rm n0 k j T h) (d : Isn b pc .return_ 1 pc') (hk : k ≤ kc) (hj : j ≤ kj) (q : Q none h) : Go K n0 kc kj Q T pc Ls ([]) := by
  obtain ⟨_, S, _⟩ := X.sd
  exact o_leave X (fun _ => rfl) hk hj q fun fs hr => S.returnOut X.ex X.rt (X.dec d.1) hr
theorem CtrW.intro {l : Launch} {y : MethodName} {ws : List Jvm.Cond} {as' : List Value} (pn : plainFor y = true) (ho : y.cls = own) (Ls : Array Slot) (hE : Jvm.Sym.laidSlots as' ++ List.replicate (mx - (Jvm.Sym.laidSlots as').length) .unset = Ls.toList)
    (body : ∀ (K : Cx) (T : State), K.meth.name = y.name → K.l = l → St K Z own b mx ret rm n0 0 0 T h → Go K n0 kc kj Q T 0 Ls []) : CtrW l Z y b mx ret ws rm kc kj as' h n0 Q := by
  refine MetFree.of_bodySF pn hisR ?_
  intro p e s m args below meth c s₁ Bd hml0 hP hK
  obtain ⟨rfl, hZ, hh⟩ := hP
  subst ho
  have X0 : Stand p l e rm s m as'.toArray below meth c s₁ [] 0 0 := Stand.of_body Bd
  have e0 : s₁.heap = h := by rw [← hh, Bd.state]; rfl
  obtain ⟨t, o, h1, h2, h3, h4⟩ := body (p, l, e, rm, s, m, as'.toArray, below, meth, c) s₁ (name_of_methodNamed Bd.named Bd.method).1 rfl ⟨Bd.exec, hZ, findClass_of_methodNamed Bd.named, Bd.bytes, hml0, Bd.returns, Bd.notSynchronized, rfl, e0, [], X0, Fr.nil n0⟩
  exact ⟨t, o, (XT.entry hE).trans h1, h2, h3, h4⟩
theorem o_callS (X : St K Z own b mx ret rm n0 k j T h) (W : Nat) {i : Nat} {y : MethodName} {by' : ByteArray} {my : Nat} {ry : Option FieldType} {rmy : Room} {as' : List Value} {Qy : Option Value → Heap → Prop} (d : Isn b pc (.invokestatic i) 3 pc')
    (w1 : (Jvm.Cond.methodLink own i y).before a0 Z = true) (w2 : (Jvm.Cond.static y).before a0 Z = true) (w3 : (Jvm.Cond.initialized y.cls).before a0 Z = true) (w4 : (Jvm.Cond.code y by' my ry).before a0 Z = true)
    (hy : y.cls ≠ "java/lang/invoke/MethodHandle" ∧ y.cls ≠ "java/lang/invoke/VarHandle") (C : Ctr K.l Z y by' my ry rmy as' h n0 Qy) (hn : ∀ sig, parseMethodDescriptor y.desc = some sig → as'.length = sig.parameters.length)
    (hs : st = as'.reverse ++ rest) (hsz : Ls.size = mx) (hW : (rest.map fun v => v.category).sum ≤ W) (hr : rmy.frames + 1 ≤ rm.frames ∧ W + (my + 11) + rmy.locals ≤ rm.locals ∧ k + rmy.cells ≤ rm.cells ∧ j + rmy.slots ≤ rm.slots)
    (g : ∀ T' h' v, Qy v h' → St K Z own b mx ret rm n0 (k + rmy.cells) (j + rmy.slots) T' h' → Go K n0 kc kj Q T' pc' Ls (v.toList ++ rest)) : Go K n0 kc kj Q T pc Ls (st) := by
  obtain ⟨d, rfl⟩ := d; obtain ⟨locs, S, N⟩ := X.sd; have hR := X.rmE
  obtain ⟨v, _, ⟨T', L', k', j'⟩, -, S', ⟨Lc, ⟨hQ, NL⟩, l1, l2, l3⟩, st'⟩ := Jvm.LawKit.callS S X.ex (y := y) X.ow (mvT X.wZ w1) (mvT X.wZ w2) (mvT X.wZ w3) (mvT X.wZ w4) hy (backOf (W := W) (Q := fun v h L => Qy v h ∧ Fr n0 L) C X.wZ w4 w3 (by rw [hR]; exact hr.1) (by rw [hR]; exact hr.2.1)) (g := mkF K.m pc Ls st) rfl (hsz.trans X.ml.symm) (argsL := as') (rest := rest) hn hs (by show 2 * 0 + _ ≤ _; omega) (X.dec d) (fun _ _ => ⟨rfl, X.hp, by rw [hR]; exact hr.2.2.1, by rw [hR]; exact hr.2.2.2⟩)
  dsimp only [Pt.U, Pt.locs, Pt.cells, Pt.slots] at S' l1 l2 l3 st' hQ
  subst l1 l2 l3
  exact o_go (fun t k => st' t k) (g T' T'.heap v hQ (X.mk' S' (Fr.app N NL) rfl))
theorem o_callV (X : St K Z own b mx ret rm n0 k j T h) (W : Nat) {i : Nat} {y z : MethodName} {C' : String} {by' : ByteArray} {my : Nat} {ry : Option FieldType} {rmy : Room} {a : Addr} {as' : List Value} {Qy : Option Value → Heap → Prop} (d : Isn b pc (.invokevirtual i) 3 pc')
    (w1 : (Jvm.Cond.methodLink own i y).before a0 Z = true) (w2 : (Jvm.Cond.declares y).before a0 Z = true) (w3 : (Jvm.Cond.selects y.cls y y).before a0 Z = true) (w5 : (Jvm.Cond.selects C' y z).before a0 Z = true) (w6 : (Jvm.Cond.instanceMethod z).before a0 Z = true)
    (hy : y.cls ≠ "java/lang/invoke/MethodHandle" ∧ y.cls ≠ "java/lang/invoke/VarHandle") (w4 : (Jvm.Cond.code z by' my ry).before a0 Z = true) (w7 : (Jvm.Cond.initialized z.cls).before a0 Z = true) (C : Ctr K.l Z z by' my ry rmy (.ref a :: as') h n0 Qy) (E : Exa Z h a C') (hn : ∀ sig, parseMethodDescriptor y.desc = some sig → as'.length = sig.parameters.length)
    (hs : st = as'.reverse ++ .ref a :: rest) (hsz : Ls.size = mx) (hW : (rest.map fun v => v.category).sum ≤ W) (hr : rmy.frames + 1 ≤ rm.frames ∧ W + (my + 11) + rmy.locals ≤ rm.locals ∧ k + rmy.cells ≤ rm.cells ∧ j + rmy.slots ≤ rm.slots)
    (g : ∀ T' h' v, Qy v h' → St K Z own b mx ret rm n0 (k + rmy.cells) (j + rmy.slots) T' h' → Go K n0 kc kj Q T' pc' Ls (v.toList ++ rest)) : Go K n0 kc kj Q T pc Ls (st) := by
  obtain ⟨d, rfl⟩ := d; obtain ⟨locs, S, N⟩ := X.sd; have hR := X.rmE
  obtain ⟨cq, kq, q1, q2, q3⟩ := isOf (s := K.s) X.wZ X.hp E
  obtain ⟨v, _, ⟨T', L', k', j'⟩, -, S', ⟨Lc, ⟨hQ, NL⟩, l1, l2, l3⟩, st'⟩ := S.virtualBack X.ex (y := y) (z := z) X.ow (mvT X.wZ w1) (mvT X.wZ w2) (notFace_of_selects (args := #[]) (mvT X.wZ w3)) (mvT X.wZ w5) (mvT X.wZ w6) hy (backOf (W := W) (Q := fun v h L => Qy v h ∧ Fr n0 L) C X.wZ w4 w7 (by rw [hR]; exact hr.1) (by rw [hR]; exact hr.2.1)) q1 q3 (g := mkF K.m pc Ls st) rfl (hsz.trans X.ml.symm) (Steps.refl _) (argsL := as') (rest := rest) hn hs (by show 2 * 0 + _ ≤ _; omega) (X.dec d) (fun _ _ => ⟨rfl, X.hp, by rw [hR]; exact hr.2.2.1, by rw [hR]; exact hr.2.2.2⟩)
  dsimp only [Pt.U, Pt.locs, Pt.cells, Pt.slots] at S' l1 l2 l3 st' hQ
  subst l1 l2 l3
  exact o_go (fun t k => st'.trans k) (g T' T'.heap v hQ (X.mk' S' (Fr.app N NL) rfl))
theorem o_callN (X : St K Z own b mx ret rm n0 k j T h) (W : Nat) {i : Nat} {y : MethodName} {by' : ByteArray} {my : Nat} {rmy : Room} {a : Addr} {as' : List Value} {Qy : Option Value → Heap → Prop} (d : Isn b pc (.invokespecial i) 3 pc') (hy1 : y.name = "<init>")
    (w1 : (Jvm.Cond.methodLink own i y).before a0 Z = true) (w2 : (Jvm.Cond.instanceMethod y).before a0 Z = true) (w4 : (Jvm.Cond.code y by' my none).before a0 Z = true) (w3 : (Jvm.Cond.initialized y.cls).before a0 Z = true)
    (hy : y.cls ≠ "java/lang/invoke/MethodHandle" ∧ y.cls ≠ "java/lang/invoke/VarHandle") (C : Ctr K.l Z y by' my none rmy (.ref a :: as') h n0 Qy) (hn : ∀ sig, parseMethodDescriptor y.desc = some sig → as'.length = sig.parameters.length)
    (hs : st = as'.reverse ++ .ref a :: rest) (hsz : Ls.size = mx) (hW : (rest.map fun v => v.category).sum ≤ W) (hr : rmy.frames + 1 ≤ rm.frames ∧ W + (my + 11) + rmy.locals ≤ rm.locals ∧ k + rmy.cells ≤ rm.cells ∧ j + rmy.slots ≤ rm.slots)
    (g : ∀ T' h' v, Qy v h' → St K Z own b mx ret rm n0 (k + rmy.cells) (j + rmy.slots) T' h' → Go K n0 kc kj Q T' pc' Ls (v.toList ++ rest)) : Go K n0 kc kj Q T pc Ls (st) := by
  obtain ⟨d, rfl⟩ := d; obtain ⟨locs, S, N⟩ := X.sd; have hR := X.rmE
  obtain ⟨v, _, ⟨T', L', k', j'⟩, -, S', ⟨Lc, ⟨hQ, NL⟩, l1, l2, l3⟩, st'⟩ := S.specialBack X.ex (y := y) hy1 X.ow (mvT X.wZ w1) (mvT X.wZ w2) (mvT X.wZ w4) hy (backOf (W := W) (Q := fun v h L => Qy v h ∧ Fr n0 L) C X.wZ w4 w3 (by rw [hR]; exact hr.1) (by rw [hR]; exact hr.2.1)) (g := mkF K.m pc Ls st) rfl (hsz.trans X.ml.symm) (Steps.refl _) (a := a) (argsL := as') (rest := rest) hn hs (by show 2 * 0 + _ ≤ _; omega) (X.dec d) (fun _ _ => ⟨rfl, X.hp, by rw [hR]; exact hr.2.2.1, by rw [hR]; exact hr.2.2.2⟩)
  dsimp only [Pt.U, Pt.locs, Pt.cells, Pt.slots] at S' l1 l2 l3 st' hQ
  subst l1 l2 l3
  exact o_go (fun t k => st'.trans k) (g T' T'.heap v hQ (X.mk' S' (Fr.app N NL) rfl))
theorem o_initO (X : St K Z own b mx ret rm n0 k j T h) (W : Nat) {i : Nat} {a : Addr} (d : Isn b pc (.invokespecial i) 3 pc') (w1 : (Jvm.Cond.methodLink own i Lib.objectInit).before a0 Z = true) (w2 : (Jvm.Cond.instanceMethod Lib.objectInit).before a0 Z = true) (w3 : (Jvm.Cond.code Lib.objectInit ⟨#[0xb1]⟩ 1 none).before a0 Z = true)
    (hsz : Ls.size = mx) (hW : (rest.map fun v => v.category).sum ≤ W) (hr : 1 ≤ rm.frames ∧ W + 12 ≤ rm.locals) (g : ∀ T', St K Z own b mx ret rm n0 k j T' h → Go K n0 kc kj Q T' pc' Ls (rest)) : Go K n0 kc kj Q T pc Ls (.ref a :: rest) := by
  obtain ⟨d, rfl⟩ := d; obtain ⟨locs, S, N⟩ := X.sd; have hR := X.rmE
  obtain ⟨T', S', e', st'⟩ := initO S X.ex X.wZ X.ow w1 w2 w3 X.hp (g := mkF K.m pc Ls (.ref a :: rest)) rfl (hsz.trans X.ml.symm) rfl (X.dec d) (by rw [hR]; exact hr.1) (W := W) (by show 2 * 0 + _ ≤ _; omega) (by rw [hR]; exact hr.2)
  exact o_go (fun t k => st' t k) (g T' (X.mk' S' N e'))
theorem o_getF (X : St K Z own b mx ret rm n0 k j T h) {i : Nat} {O n dd : String} {a : Addr} {v : Value} (d : Isn b pc (.getfield i) 3 pc') (wd : (Jvm.Cond.fieldLink own i O n dd).before a0 Z = true) (F : Fld Z h a O n dd v)
    (g : ∀ T', St K Z own b mx ret rm n0 k j T' h → Go K n0 kc kj Q T' pc' Ls (v :: rest)) : Go K n0 kc kj Q T pc Ls (.ref a :: rest) := by
  obtain ⟨d, rfl⟩ := d; obtain ⟨locs, S, N⟩ := X.sd
  obtain ⟨T', S', e', st'⟩ := getF S X.ex X.wZ X.ow (host := "") (Or.inl wd) Via.refl X.hp F (g := mkF K.m pc Ls (.ref a :: rest)) rfl rfl (X.dec d)
  exact o_go (fun t k => st' t k) (g T' (X.mk' S' N e'))
theorem o_putF (X : St K Z own b mx ret rm n0 k j T h) {i kk : Nat} {O n dd C' : String} {ty : FieldType} {a : Addr} {v ov : Value} (d : Isn b pc (.putfield i) 3 pc') (wd : (Jvm.Cond.fieldLink own i O n dd).before a0 Z = true) (F : Fld Z h a O n dd ov) (E : Exa Z h a C')
    (Lf : (Jvm.Cond.lays C' O n dd).before a0 Z = true ∨ ((Jvm.Cond.laysFinal C' O n dd).before a0 Z = true ∧ own = O ∧ K.meth.name = "<init>")) (wi : (Jvm.Cond.instantiable C' kk).before a0 Z = true) (hty : parseFieldDescriptor dd = some ty) (hn : narrow ty v = v) (hf : fits ty v = true) (ha : n0 ≤ a)
    (g : ∀ T' h', St K Z own b mx ret rm n0 k j T' h' → Wr h h' a (Jvm.RoadKit.slotOf Z O n dd) v → Go K n0 kc kj Q T' pc' Ls (rest)) : Go K n0 kc kj Q T pc Ls (v :: .ref a :: rest) := by
  obtain ⟨d, rfl⟩ := d; obtain ⟨locs, S, N⟩ := X.sd
  obtain ⟨T', h', S', e', W', st'⟩ := putF S X.ex X.wZ X.ow (host := "") (Or.inl wd) Via.refl X.hp F E Lf wi hty hn hf (g := mkF K.m pc Ls (v :: .ref a :: rest)) rfl rfl (X.dec d)
  exact o_go (fun t k => st' t k) (g T' h' (X.mk' S' (Fr.snoc S' N ha) e') W')
theorem o_new (X : St K Z own b mx ret rm n0 k j T h) {i nn : Nat} {C' : String} (d : Isn b pc (.new i) 3 pc') (w1 : (Jvm.Cond.classLink own i C').before a0 Z = true) (w2 : (Jvm.Cond.instantiable C' nn).before a0 Z = true) (w3 : (Jvm.Cond.initialized C').before a0 Z = true) (hr : k + 1 ≤ rm.cells ∧ j + nn ≤ rm.slots)
    (g : ∀ T' h' a, a = h.size → St K Z own b mx ret rm n0 (k + 1) (j + nn) T' h' → Ext h h' → Exa Z h' a C' → (∀ {O nm dd : String} {ty : FieldType}, Laid Z a0 C' O nm dd → parseFieldDescriptor dd = some ty → Fld Z h' a O nm dd (defaultValue ty)) → Go K n0 kc kj Q T' pc' Ls (.ref a :: st)) : Go K n0 kc kj Q T pc Ls (st) := by
  obtain ⟨d, rfl⟩ := d; obtain ⟨locs, S, N⟩ := X.sd; have hR := X.rmE
  obtain ⟨T', h', S', e', E', A', D', -, st'⟩ := newO S X.ex X.wZ X.ow w1 w2 w3 X.hp (g := mkF K.m pc Ls st) rfl (X.dec d) (by rw [hR]; exact hr.1) (by rw [hR]; exact hr.2)
  exact o_go (fun t k => st' t k) (g T' h' h.size rfl (X.mk' S' N e') E' A' D')
/-- an array, by all its values -/
def AL (Z : State) (h : Heap) (a : Addr) (ty : FieldType) (vs : List Value) : Prop := ∃ c : Cell, Arr Z h a c ty ∧ c.slots = vs.toArray ∧ vs.length < 2 ^ 31
theorem AL.lt {a : Addr} {ty : FieldType} {vs : List Value} (A : AL Z h a ty vs) : a < h.size := by obtain ⟨c, q, -⟩ := A; exact q.lt
theorem AL.ext {h' : Heap} {a : Addr} {ty : FieldType} {vs : List Value} (A : AL Z h a ty vs) (E : Ext h h') : AL Z h' a ty vs := by obtain ⟨c, q, r⟩ := A; exact ⟨c, q.ext E, r⟩
theorem AL.other {h' : Heap} {a a' : Addr} {sl : Nat} {v : Value} {ty : FieldType} {vs : List Value} (A : AL Z h a ty vs) (W : Wr h h' a' sl v) (ne : a ≠ a') : AL Z h' a ty vs := by obtain ⟨c, q, r⟩ := A; exact ⟨c, q.other W ne, r⟩
theorem AL.keep {h' : Heap} {a : Addr} {ws : List Addr} {ty : FieldType} {vs : List Value} (A : AL Z h a ty vs) (Kp : Keep h h' ws) (q : a ∉ ws) : AL Z h' a ty vs := by obtain ⟨c, A1, r⟩ := A; exact ⟨c, ⟨Kp.2.1 a c A1.1 q, A1.2⟩, r⟩
theorem AL.set {h' : Heap} {a : Addr} {sl : Nat} {v : Value} {ty : FieldType} {vs : List Value} (A : AL Z h a ty vs) (W : Wr h h' a sl v) : AL Z h' a ty (vs.set sl v) := by
  obtain ⟨c, q, r, s⟩ := A
  exact ⟨_, q.same W, by simp [Cell.setSlot, r], by simpa using s⟩
theorem AL.inb {a : Addr} {ty : FieldType} {vs : List Value} {i : Int32} {c : Cell} (r : c.slots = vs.toArray) (hi : ¬ i < 0) (hl : i.toNatClampNeg < vs.length) : ¬ (i < 0 ∨ c.slots.size ≤ i.toNatClampNeg) := by
  rw [r]; rintro (q | q)
  · exact hi q
  · simp at q; omega
theorem o_arraylength (X : St K Z own b mx ret rm n0 k j T h) {a : Addr} {ty : FieldType} {vs : List Value} (n : Int32) (d : Isn b pc .arraylength 1 pc') (A : AL Z h a ty vs) (hn : vs.length.toInt32 = n) (g : Go K n0 kc kj Q T pc' Ls (.int n :: rest)) : Go K n0 kc kj Q T pc Ls (.ref a :: rest) := by
  obtain ⟨d, rfl⟩ := d; obtain ⟨locs, S, N⟩ := X.sd; obtain ⟨c, q, r, s⟩ := A
  have e : c.slots.size.toInt32 = n := by rw [r, ← hn]; simp
  exact o_go (fun t k => S.arraylength X.ex (cell := c) (by rw [X.hp]; exact q.1) (State.isArrayOf_alike X.wZ.alike q.2.1) (g := mkF K.m pc Ls (.ref a :: rest)) rfl (rest := rest) rfl (X.dec d) t (by rw [e]; exact k)) g
theorem o_iaload (X : St K Z own b mx ret rm n0 k j T h) {a : Addr} {vs : List Value} {i : Int32} {v : Int32} (d : Isn b pc .iaload 1 pc') (A : AL Z h a .int vs) (hi : ¬ i < 0) (hv : vs[i.toNatClampNeg]? = some (.int v)) (g : Go K n0 kc kj Q T pc' Ls (.int v :: rest)) : Go K n0 kc kj Q T pc Ls (.int i :: .ref a :: rest) := by
  obtain ⟨d, rfl⟩ := d; obtain ⟨locs, S, N⟩ := X.sd; obtain ⟨c, q, r, s⟩ := A
  have hl : i.toNatClampNeg < vs.length := (List.getElem?_eq_some_iff.mp hv).1
  exact o_go (fun t k => S.iaload X.ex (j := i) (v := .int v) (by rw [X.hp]; exact q.1) (State.isArrayOf_alike X.wZ.alike q.2.1) q.2.2 (AL.inb (a := a) (ty := .int) r hi hl) (by rw [r]; simpa using hv) (g := mkF K.m pc Ls (.int i :: .ref a :: rest)) rfl rfl (X.dec d) t k) g
theorem o_laload (X : St K Z own b mx ret rm n0 k j T h) {a : Addr} {vs : List Value} {i : Int32} {v : Int64} (d : Isn b pc .laload 1 pc') (A : AL Z h a .long vs) (hi : ¬ i < 0) (hv : vs[i.toNatClampNeg]? = some (.long v)) (g : Go K n0 kc kj Q T pc' Ls (.long v :: rest)) : Go K n0 kc kj Q T pc Ls (.int i :: .ref a :: rest) := by
  obtain ⟨d, rfl⟩ := d; obtain ⟨locs, S, N⟩ := X.sd; obtain ⟨c, q, r, s⟩ := A
  have hl : i.toNatClampNeg < vs.length := (List.getElem?_eq_some_iff.mp hv).1
  exact o_go (fun t k => S.laload X.ex (j := i) (v := .long v) (by rw [X.hp]; exact q.1) (State.isArrayOf_alike X.wZ.alike q.2.1) q.2.2 (AL.inb (a := a) (ty := .long) r hi hl) (by rw [r]; simpa using hv) (g := mkF K.m pc Ls (.int i :: .ref a :: rest)) rfl rfl (X.dec d) t k) g
theorem o_caload (X : St K Z own b mx ret rm n0 k j T h) {a : Addr} {vs : List Value} {i : Int32} {v : Int32} (d : Isn b pc .caload 1 pc') (A : AL Z h a .char vs) (hi : ¬ i < 0) (hv : vs[i.toNatClampNeg]? = some (.int v)) (g : Go K n0 kc kj Q T pc' Ls (.int v :: rest)) : Go K n0 kc kj Q T pc Ls (.int i :: .ref a :: rest) := by
  obtain ⟨d, rfl⟩ := d; obtain ⟨locs, S, N⟩ := X.sd; obtain ⟨c, q, r, s⟩ := A
  have hl : i.toNatClampNeg < vs.length := (List.getElem?_eq_some_iff.mp hv).1
  exact o_go (fun t k => S.caload X.ex (j := i) (v := .int v) (by rw [X.hp]; exact q.1) (State.isArrayOf_alike X.wZ.alike q.2.1) q.2.2 (AL.inb (a := a) (ty := .char) r hi hl) (by rw [r]; simpa using hv) (g := mkF K.m pc Ls (.int i :: .ref a :: rest)) rfl rfl (X.dec d) t k) g
theorem o_baload (X : St K Z own b mx ret rm n0 k j T h) {a : Addr} {vs : List Value} {i : Int32} {v : Int32} (d : Isn b pc .baload 1 pc') (A : AL Z h a .byte vs) (hi : ¬ i < 0) (hv : vs[i.toNatClampNeg]? = some (.int v)) (g : Go K n0 kc kj Q T pc' Ls (.int v :: rest)) : Go K n0 kc kj Q T pc Ls (.int i :: .ref a :: rest) := by
  obtain ⟨d, rfl⟩ := d; obtain ⟨locs, S, N⟩ := X.sd; obtain ⟨c, q, r, s⟩ := A
  have hl : i.toNatClampNeg < vs.length := (List.getElem?_eq_some_iff.mp hv).1
  exact o_go (fun t k => S.baloadBytes X.ex (j := i) (v := .int v) (by rw [X.hp]; exact q.1) (State.isArrayOf_alike X.wZ.alike q.2.1) q.2.2 (AL.inb (a := a) (ty := .byte) r hi hl) (by rw [r]; simpa using hv) (g := mkF K.m pc Ls (.int i :: .ref a :: rest)) rfl rfl (X.dec d) t k) g
theorem o_iastore (X : St K Z own b mx ret rm n0 k j T h) {a : Addr} {vs vs' : List Value} {i : Int32} {v : Int32} (d : Isn b pc .iastore 1 pc') (A : AL Z h a .int vs) (hi : ¬ i < 0) (hl : i.toNatClampNeg < vs.length) (ha : n0 ≤ a) (hv : vs.set i.toNatClampNeg (.int v) = vs')
    (g : ∀ T' h', St K Z own b mx ret rm n0 k j T' h' → Wr h h' a i.toNatClampNeg (.int v) → AL Z h' a .int vs' → Go K n0 kc kj Q T' pc' Ls (rest)) : Go K n0 kc kj Q T pc Ls (.int v :: .int i :: .ref a :: rest) := by
  obtain ⟨d, rfl⟩ := d; obtain ⟨locs, S, N⟩ := X.sd; obtain ⟨c, q, r, s⟩ := A
  obtain ⟨T', h', S', e', W', st'⟩ := stI S X.ex X.wZ X.hp q (j := i) (x := v) (AL.inb (a := a) (ty := .int) r hi hl) (g := mkF K.m pc Ls (.int v :: .int i :: .ref a :: rest)) rfl rfl (X.dec d)
  exact o_go (fun t k => st' t k) (g T' h' (X.mk' S' (Fr.snoc S' N ha) e') W' (hv ▸ AL.set ⟨c, q, r, s⟩ W'))
theorem o_lastore (X : St K Z own b mx ret rm n0 k j T h) {a : Addr} {vs vs' : List Value} {i : Int32} {v : Int64} (d : Isn b pc .lastore 1 pc') (A : AL Z h a .long vs) (hi : ¬ i < 0) (hl : i.toNatClampNeg < vs.length) (ha : n0 ≤ a) (hv : vs.set i.toNatClampNeg (.long v) = vs')
    (g : ∀ T' h', St K Z own b mx ret rm n0 k j T' h' → Wr h h' a i.toNatClampNeg (.long v) → AL Z h' a .long vs' → Go K n0 kc kj Q T' pc' Ls (rest)) : Go K n0 kc kj Q T pc Ls (.long v :: .int i :: .ref a :: rest) := by
  obtain ⟨d, rfl⟩ := d; obtain ⟨locs, S, N⟩ := X.sd; obtain ⟨c, q, r, s⟩ := A
  obtain ⟨T', h', S', e', W', st'⟩ := stJ S X.ex X.wZ X.hp q (j := i) (x := v) (AL.inb (a := a) (ty := .long) r hi hl) (g := mkF K.m pc Ls (.long v :: .int i :: .ref a :: rest)) rfl rfl (X.dec d)
  exact o_go (fun t k => st' t k) (g T' h' (X.mk' S' (Fr.snoc S' N ha) e') W' (hv ▸ AL.set ⟨c, q, r, s⟩ W'))
theorem o_castore (X : St K Z own b mx ret rm n0 k j T h) {a : Addr} {vs vs' : List Value} {i : Int32} {v : Int32} (d : Isn b pc .castore 1 pc') (A : AL Z h a .char vs) (hi : ¬ i < 0) (hl : i.toNatClampNeg < vs.length) (ha : n0 ≤ a) (hv : vs.set i.toNatClampNeg (.int (nar .char v)) = vs')
    (g : ∀ T' h', St K Z own b mx ret rm n0 k j T' h' → Wr h h' a i.toNatClampNeg (.int (nar .char v)) → AL Z h' a .char vs' → Go K n0 kc kj Q T' pc' Ls (rest)) : Go K n0 kc kj Q T pc Ls (.int v :: .int i :: .ref a :: rest) := by
  obtain ⟨d, rfl⟩ := d; obtain ⟨locs, S, N⟩ := X.sd; obtain ⟨c, q, r, s⟩ := A
  obtain ⟨T', h', S', e', W', st'⟩ := stC S X.ex X.wZ X.hp q (j := i) (x := v) (AL.inb (a := a) (ty := .char) r hi hl) (g := mkF K.m pc Ls (.int v :: .int i :: .ref a :: rest)) rfl rfl (X.dec d)
  exact o_go (fun t k => st' t k) (g T' h' (X.mk' S' (Fr.snoc S' N ha) e') W' (hv ▸ AL.set ⟨c, q, r, s⟩ W'))
theorem o_bastore (X : St K Z own b mx ret rm n0 k j T h) {a : Addr} {vs vs' : List Value} {i : Int32} {v : Int32} (d : Isn b pc .bastore 1 pc') (A : AL Z h a .byte vs) (hi : ¬ i < 0) (hl : i.toNatClampNeg < vs.length) (ha : n0 ≤ a) (hv : vs.set i.toNatClampNeg (.int (nar .byte v)) = vs')
    (g : ∀ T' h', St K Z own b mx ret rm n0 k j T' h' → Wr h h' a i.toNatClampNeg (.int (nar .byte v)) → AL Z h' a .byte vs' → Go K n0 kc kj Q T' pc' Ls (rest)) : Go K n0 kc kj Q T pc Ls (.int v :: .int i :: .ref a :: rest) := by
  obtain ⟨d, rfl⟩ := d; obtain ⟨locs, S, N⟩ := X.sd; obtain ⟨c, q, r, s⟩ := A
  obtain ⟨T', h', S', e', W', st'⟩ := stB S X.ex X.wZ X.hp q (j := i) (x := v) (AL.inb (a := a) (ty := .byte) r hi hl) (g := mkF K.m pc Ls (.int v :: .int i :: .ref a :: rest)) rfl rfl (X.dec d)
  exact o_go (fun t k => st' t k) (g T' h' (X.mk' S' (Fr.snoc S' N ha) e') W' (hv ▸ AL.set ⟨c, q, r, s⟩ W'))
theorem o_newarray (X : St K Z own b mx ret rm n0 k j T h) (cap : Nat) {aty : ArrayType} {n : Int32} {vs : List Value} (d : Isn b pc (.newarray aty) 2 pc') (wd : (Jvm.Cond.arrayClass (newarray.typeOf aty)).before a0 Z = true) (hn : ¬ n < 0) (hcap : n.toNatClampNeg ≤ cap) (hvs : List.replicate n.toNatClampNeg (defaultValue (newarray.typeOf aty)) = vs) (hr : cap * 8 ≤ 536870912 ∧ k + 1 ≤ rm.cells ∧ j + cap ≤ rm.slots)
    (g : ∀ T' h' a, a = h.size → St K Z own b mx ret rm n0 (k + 1) (j + cap) T' h' → Ext h h' → AL Z h' a (newarray.typeOf aty) vs → Go K n0 kc kj Q T' pc' Ls (.ref a :: rest)) : Go K n0 kc kj Q T pc Ls (.int n :: rest) := by
  obtain ⟨d, rfl⟩ := d; obtain ⟨locs, S, N⟩ := X.sd; have hR := X.rmE
  obtain ⟨T', h', cA, S', e', E', A', st'⟩ := newP S X.ex X.wZ wd X.hp (g := mkF K.m pc Ls (.int n :: rest)) rfl (X.dec d) rfl hn hcap hr.1 (by rw [hR]; exact hr.2.1) (by rw [hR]; exact hr.2.2)
  refine o_go (fun t k => st' t k) (g T' h' h.size rfl (X.mk' S' N e') E' ⟨_, A', ?_, ?_⟩)
  · rw [← hvs]; simp [newA]
  · rw [← hvs]; simp; have := (back32 hn).2; omega
/-- the array at a takes objects of class C -/
def AO (Z : State) (h : Heap) (a : Addr) (C : String) : Prop := ∃ c : Cell, h[a]? = some c ∧ Ovr Z c.cls C
theorem AO.ext {h' : Heap} {a : Addr} {C : String} (A : AO Z h a C) (E : Ext h h') : AO Z h' a C := by obtain ⟨c, q, r⟩ := A; exact ⟨c, E.2 _ _ q, r⟩
theorem AO.wr {h' : Heap} {a a' : Addr} {C : String} {sl : Nat} {v : Value} (A : AO Z h a C) (W : Wr h h' a' sl v) : AO Z h' a C := by
  obtain ⟨c, q, r⟩ := A; obtain ⟨c', q1, q2, -⟩ := wr_at W q; exact ⟨c', q1, by rw [q2]; exact r⟩
theorem o_anewarray (X : St K Z own b mx ret rm n0 k j T h) (cap : Nat) {i : Nat} {C' : String} {n : Int32} {vs : List Value} (d : Isn b pc (.anewarray i) 3 pc') (w1 : (Jvm.Cond.classLink own i C').before a0 Z = true) (w2 : (Jvm.Cond.arrayOver (.object C')).before a0 Z = true) (hn : ¬ n < 0) (hcap : n.toNatClampNeg ≤ cap) (hvs : List.replicate n.toNatClampNeg Value.null = vs) (hr : cap * 8 ≤ 536870912 ∧ k + 1 ≤ rm.cells ∧ j + cap ≤ rm.slots)
    (g : ∀ T' h' a, a = h.size → St K Z own b mx ret rm n0 (k + 1) (j + cap) T' h' → Ext h h' → AL Z h' a (.object C') vs → AO Z h' a C' → Go K n0 kc kj Q T' pc' Ls (.ref a :: rest)) : Go K n0 kc kj Q T pc Ls (.int n :: rest) := by
  obtain ⟨d, rfl⟩ := d; obtain ⟨locs, S, N⟩ := X.sd; have hR := X.rmE
  obtain ⟨T', h', cA, S', e', E', A', O', st'⟩ := newR S X.ex X.wZ X.ow w1 w2 X.hp (g := mkF K.m pc Ls (.int n :: rest)) rfl (X.dec d) rfl hn hcap hr.1 (by rw [hR]; exact hr.2.1) (by rw [hR]; exact hr.2.2)
  refine o_go (fun t k => st' t k) (g T' h' h.size rfl (X.mk' S' N e') E' ⟨_, A', ?_, ?_⟩ ⟨_, A'.1, O'⟩)
  · rw [← hvs]; simp [newA, defaultValue]
  · rw [← hvs]; simp; have := (back32 hn).2; omega
theorem o_aaload (X : St K Z own b mx ret rm n0 k j T h) {a : Addr} {ty : FieldType} {vs : List Value} {i : Int32} {v : Value} (hty : ty.isReference = true) (d : Isn b pc .aaload 1 pc') (A : AL Z h a ty vs) (hi : ¬ i < 0) (hv : vs[i.toNatClampNeg]? = some v) (g : Go K n0 kc kj Q T pc' Ls (v :: rest)) : Go K n0 kc kj Q T pc Ls (.int i :: .ref a :: rest) := by
  obtain ⟨d, rfl⟩ := d; obtain ⟨locs, S, N⟩ := X.sd; obtain ⟨c, q, r, s⟩ := A
  have hl : i.toNatClampNeg < vs.length := (List.getElem?_eq_some_iff.mp hv).1
  exact o_go (fun t k => S.aaload X.ex (j := i) (v := v) (by rw [X.hp]; exact q.1) (State.isArrayOf_alike X.wZ.alike q.2.1) hty q.2.2 (AL.inb (a := a) (ty := ty) r hi hl) (by rw [r]; simpa using hv) (g := mkF K.m pc Ls (.int i :: .ref a :: rest)) rfl rfl (X.dec d) t k) g
theorem o_aastore (X : St K Z own b mx ret rm n0 k j T h) {a y : Addr} {C' : String} {vs vs' : List Value} {i : Int32} (d : Isn b pc .aastore 1 pc') (A : AL Z h a (.object C') vs) (O : AO Z h a C') (I : Jvm.RoadKit.Ins Z h y C' true) (hi : ¬ i < 0) (hl : i.toNatClampNeg < vs.length) (ha : n0 ≤ a) (hv : vs.set i.toNatClampNeg (.ref y) = vs')
    (g : ∀ T' h', St K Z own b mx ret rm n0 k j T' h' → Wr h h' a i.toNatClampNeg (.ref y) → AL Z h' a (.object C') vs' → Go K n0 kc kj Q T' pc' Ls (rest)) : Go K n0 kc kj Q T pc Ls (.ref y :: .int i :: .ref a :: rest) := by
  obtain ⟨d, rfl⟩ := d; obtain ⟨locs, S, N⟩ := X.sd; obtain ⟨c, q, r, s⟩ := A
  obtain ⟨c2, q2, r2⟩ := O
  have hO : Ovr Z c.cls C' := by cases q.1.symm.trans q2; exact r2
  obtain ⟨T', h', S', e', W', st'⟩ := stR S X.ex X.wZ X.hp q (j := i) (v := .ref y) (AL.inb (a := a) (ty := .object C') r hi hl) rfl (Sto.of q hO I) (g := mkF K.m pc Ls (.ref y :: .int i :: .ref a :: rest)) rfl rfl (X.dec d)
  exact o_go (fun t k => st' t k) (g T' h' (X.mk' S' (Fr.snoc S' N ha) e') W' (hv ▸ AL.set ⟨c, q, r, s⟩ W'))
/-- an array of ints, booleans, bytes or chars, by a function of the place -/
def AN (Z : State) (h : Heap) (a : Addr) (ty : FieldType) (n : Nat) (f : Nat → Int32) : Prop := ∃ c : Cell, Arr Z h a c ty ∧ c.slots.size = n ∧ n < 2 ^ 31 ∧ ∀ i, i < n → c.slots[i]? = some (.int (f i))
theorem AN.lt {a : Addr} {ty : FieldType} {n : Nat} {f : Nat → Int32} (A : AN Z h a ty n f) : a < h.size := by obtain ⟨c, q, -⟩ := A; exact q.lt
theorem AN.ext {h' : Heap} {a : Addr} {ty : FieldType} {n : Nat} {f : Nat → Int32} (A : AN Z h a ty n f) (E : Ext h h') : AN Z h' a ty n f := by obtain ⟨c, q, r⟩ := A; exact ⟨c, q.ext E, r⟩
theorem AN.other {h' : Heap} {a a' : Addr} {sl : Nat} {v : Value} {ty : FieldType} {n : Nat} {f : Nat → Int32} (A : AN Z h a ty n f) (W : Wr h h' a' sl v) (ne : a ≠ a') : AN Z h' a ty n f := by obtain ⟨c, q, r⟩ := A; exact ⟨c, q.other W ne, r⟩
theorem AN.keep {h' : Heap} {a : Addr} {ws : List Addr} {ty : FieldType} {n : Nat} {f : Nat → Int32} (A : AN Z h a ty n f) (Kp : Keep h h' ws) (q : a ∉ ws) : AN Z h' a ty n f := by obtain ⟨c, A1, r⟩ := A; exact ⟨c, ⟨Kp.2.1 a c A1.1 q, A1.2⟩, r⟩
theorem AN.set {h' : Heap} {a : Addr} {sl : Nat} {v : Int32} {ty : FieldType} {n : Nat} {f : Nat → Int32} (A : AN Z h a ty n f) (W : Wr h h' a sl (.int v)) : AN Z h' a ty n (fun i => if i = sl then v else f i) := by
  obtain ⟨c, q, r, s, t⟩ := A
  refine ⟨_, q.same W, by simpa [Cell.setSlot] using r, s, fun i hi => ?_⟩
  have e := t i hi
  by_cases p : i = sl
  · subst p; have : i < c.slots.size := r ▸ hi
    simp [Cell.setSlot, this]
  · have p' : ¬ sl = i := fun q => p q.symm
    simp [Cell.setSlot, Array.getElem?_setIfInBounds, p, p', e]
theorem AN.inb {n : Nat} {i : Int32} {c : Cell} (r : c.slots.size = n) (hi : ¬ i < 0) (hl : i.toNatClampNeg < n) : ¬ (i < 0 ∨ c.slots.size ≤ i.toNatClampNeg) := by
  rw [r]; rintro (q | q)
  · exact hi q
  · omega
theorem o_alenN (X : St K Z own b mx ret rm n0 k j T h) {a : Addr} {ty : FieldType} {n : Nat} {f : Nat → Int32} (z : Int32) (d : Isn b pc .arraylength 1 pc') (A : AN Z h a ty n f) (hn : n.toInt32 = z) (g : Go K n0 kc kj Q T pc' Ls (.int z :: rest)) : Go K n0 kc kj Q T pc Ls (.ref a :: rest) := by
  obtain ⟨d, rfl⟩ := d; obtain ⟨locs, S, N⟩ := X.sd; obtain ⟨c, q, r, s⟩ := A
  have e : c.slots.size.toInt32 = z := by rw [r, ← hn]
  exact o_go (fun t k => S.arraylength X.ex (cell := c) (by rw [X.hp]; exact q.1) (State.isArrayOf_alike X.wZ.alike q.2.1) (g := mkF K.m pc Ls (.ref a :: rest)) rfl (rest := rest) rfl (X.dec d) t (by rw [e]; exact k)) g

theorem o_ialoadN (X : St K Z own b mx ret rm n0 k j T h) {a : Addr} {n : Nat} {f : Nat → Int32} {i : Int32} (d : Isn b pc .iaload 1 pc') (A : AN Z h a .int n f) (hi : ¬ i < 0) (hl : i.toNatClampNeg < n) (g : Go K n0 kc kj Q T pc' Ls (.int (f i.toNatClampNeg) :: rest)) : Go K n0 kc kj Q T pc Ls (.int i :: .ref a :: rest) := by
  obtain ⟨d, rfl⟩ := d; obtain ⟨locs, S, N⟩ := X.sd; obtain ⟨c, q, r, s, t⟩ := A
  exact o_go (fun t' k => S.iaload X.ex (j := i) (v := .int (f i.toNatClampNeg)) (by rw [X.hp]; exact q.1) (State.isArrayOf_alike X.wZ.alike q.2.1) q.2.2 (AN.inb r hi hl) (t _ hl) (g := mkF K.m pc Ls (.int i :: .ref a :: rest)) rfl rfl (X.dec d) t' k) g
theorem o_caloadN (X : St K Z own b mx ret rm n0 k j T h) {a : Addr} {n : Nat} {f : Nat → Int32} {i : Int32} (d : Isn b pc .caload 1 pc') (A : AN Z h a .char n f) (hi : ¬ i < 0) (hl : i.toNatClampNeg < n) (g : Go K n0 kc kj Q T pc' Ls (.int (f i.toNatClampNeg) :: rest)) : Go K n0 kc kj Q T pc Ls (.int i :: .ref a :: rest) := by
  obtain ⟨d, rfl⟩ := d; obtain ⟨locs, S, N⟩ := X.sd; obtain ⟨c, q, r, s, t⟩ := A
  exact o_go (fun t' k => S.caload X.ex (j := i) (v := .int (f i.toNatClampNeg)) (by rw [X.hp]; exact q.1) (State.isArrayOf_alike X.wZ.alike q.2.1) q.2.2 (AN.inb r hi hl) (t _ hl) (g := mkF K.m pc Ls (.int i :: .ref a :: rest)) rfl rfl (X.dec d) t' k) g
theorem o_baloadN (X : St K Z own b mx ret rm n0 k j T h) {a : Addr} {n : Nat} {f : Nat → Int32} {i : Int32} (d : Isn b pc .baload 1 pc') (A : AN Z h a .byte n f) (hi : ¬ i < 0) (hl : i.toNatClampNeg < n) (g : Go K n0 kc kj Q T pc' Ls (.int (f i.toNatClampNeg) :: rest)) : Go K n0 kc kj Q T pc Ls (.int i :: .ref a :: rest) := by
  obtain ⟨d, rfl⟩ := d; obtain ⟨locs, S, N⟩ := X.sd; obtain ⟨c, q, r, s, t⟩ := A
  exact o_go (fun t' k => S.baloadBytes X.ex (j := i) (v := .int (f i.toNatClampNeg)) (by rw [X.hp]; exact q.1) (State.isArrayOf_alike X.wZ.alike q.2.1) q.2.2 (AN.inb r hi hl) (t _ hl) (g := mkF K.m pc Ls (.int i :: .ref a :: rest)) rfl rfl (X.dec d) t' k) g
theorem o_zaloadN (X : St K Z own b mx ret rm n0 k j T h) {a : Addr} {n : Nat} {f : Nat → Int32} {i : Int32} (d : Isn b pc .baload 1 pc') (A : AN Z h a .boolean n f) (hi : ¬ i < 0) (hl : i.toNatClampNeg < n) (g : Go K n0 kc kj Q T pc' Ls (.int (f i.toNatClampNeg) :: rest)) : Go K n0 kc kj Q T pc Ls (.int i :: .ref a :: rest) := by
  obtain ⟨d, rfl⟩ := d; obtain ⟨locs, S, N⟩ := X.sd; obtain ⟨c, q, r, s, t⟩ := A
  exact o_go (fun t' k => S.baloadBooleans X.ex (j := i) (v := .int (f i.toNatClampNeg)) (by rw [X.hp]; exact q.1) (State.isArrayOf_alike X.wZ.alike q.2.1) q.2.2 (AN.inb r hi hl) (t _ hl) (g := mkF K.m pc Ls (.int i :: .ref a :: rest)) rfl rfl (X.dec d) t' k) g
theorem o_iastoreN (X : St K Z own b mx ret rm n0 k j T h) {a : Addr} {n : Nat} {f : Nat → Int32} {i v : Int32} (d : Isn b pc .iastore 1 pc') (A : AN Z h a .int n f) (hi : ¬ i < 0) (hl : i.toNatClampNeg < n) (ha : n0 ≤ a)
    (g : ∀ T' h', St K Z own b mx ret rm n0 k j T' h' → Wr h h' a i.toNatClampNeg (.int (v)) → AN Z h' a .int n (fun q => if q = i.toNatClampNeg then v else f q) → Go K n0 kc kj Q T' pc' Ls (rest)) : Go K n0 kc kj Q T pc Ls (.int v :: .int i :: .ref a :: rest) := by
  obtain ⟨d, rfl⟩ := d; obtain ⟨locs, S, N⟩ := X.sd; have A0 := A; obtain ⟨c, q, r, s⟩ := A
  obtain ⟨T', h', S', e', W', st'⟩ := stI S X.ex X.wZ X.hp q (j := i) (x := v) (AN.inb r hi hl) (g := mkF K.m pc Ls (.int v :: .int i :: .ref a :: rest)) rfl rfl (X.dec d)
  exact o_go (fun t k => st' t k) (g T' h' (X.mk' S' (Fr.snoc S' N ha) e') W' (A0.set W'))
theorem o_castoreN (X : St K Z own b mx ret rm n0 k j T h) {a : Addr} {n : Nat} {f : Nat → Int32} {i v : Int32} (d : Isn b pc .castore 1 pc') (A : AN Z h a .char n f) (hi : ¬ i < 0) (hl : i.toNatClampNeg < n) (ha : n0 ≤ a)
    (g : ∀ T' h', St K Z own b mx ret rm n0 k j T' h' → Wr h h' a i.toNatClampNeg (.int (nar .char v)) → AN Z h' a .char n (fun q => if q = i.toNatClampNeg then nar .char v else f q) → Go K n0 kc kj Q T' pc' Ls (rest)) : Go K n0 kc kj Q T pc Ls (.int v :: .int i :: .ref a :: rest) := by
  obtain ⟨d, rfl⟩ := d; obtain ⟨locs, S, N⟩ := X.sd; have A0 := A; obtain ⟨c, q, r, s⟩ := A
  obtain ⟨T', h', S', e', W', st'⟩ := stC S X.ex X.wZ X.hp q (j := i) (x := v) (AN.inb r hi hl) (g := mkF K.m pc Ls (.int v :: .int i :: .ref a :: rest)) rfl rfl (X.dec d)
  exact o_go (fun t k => st' t k) (g T' h' (X.mk' S' (Fr.snoc S' N ha) e') W' (A0.set W'))
theorem o_bastoreN (X : St K Z own b mx ret rm n0 k j T h) {a : Addr} {n : Nat} {f : Nat → Int32} {i v : Int32} (d : Isn b pc .bastore 1 pc') (A : AN Z h a .byte n f) (hi : ¬ i < 0) (hl : i.toNatClampNeg < n) (ha : n0 ≤ a)
    (g : ∀ T' h', St K Z own b mx ret rm n0 k j T' h' → Wr h h' a i.toNatClampNeg (.int (nar .byte v)) → AN Z h' a .byte n (fun q => if q = i.toNatClampNeg then nar .byte v else f q) → Go K n0 kc kj Q T' pc' Ls (rest)) : Go K n0 kc kj Q T pc Ls (.int v :: .int i :: .ref a :: rest) := by
  obtain ⟨d, rfl⟩ := d; obtain ⟨locs, S, N⟩ := X.sd; have A0 := A; obtain ⟨c, q, r, s⟩ := A
  obtain ⟨T', h', S', e', W', st'⟩ := stB S X.ex X.wZ X.hp q (j := i) (x := v) (AN.inb r hi hl) (g := mkF K.m pc Ls (.int v :: .int i :: .ref a :: rest)) rfl rfl (X.dec d)
  exact o_go (fun t k => st' t k) (g T' h' (X.mk' S' (Fr.snoc S' N ha) e') W' (A0.set W'))
theorem o_zastoreN (X : St K Z own b mx ret rm n0 k j T h) {a : Addr} {n : Nat} {f : Nat → Int32} {i v : Int32} (d : Isn b pc .bastore 1 pc') (A : AN Z h a .boolean n f) (hi : ¬ i < 0) (hl : i.toNatClampNeg < n) (ha : n0 ≤ a)
    (g : ∀ T' h', St K Z own b mx ret rm n0 k j T' h' → Wr h h' a i.toNatClampNeg (.int (nar .boolean v)) → AN Z h' a .boolean n (fun q => if q = i.toNatClampNeg then nar .boolean v else f q) → Go K n0 kc kj Q T' pc' Ls (rest)) : Go K n0 kc kj Q T pc Ls (.int v :: .int i :: .ref a :: rest) := by
  obtain ⟨d, rfl⟩ := d; obtain ⟨locs, S, N⟩ := X.sd; have A0 := A; obtain ⟨c, q, r, s⟩ := A
  obtain ⟨T', h', S', e', W', st'⟩ := stZ S X.ex X.wZ X.hp q (j := i) (x := v) (AN.inb r hi hl) (g := mkF K.m pc Ls (.int v :: .int i :: .ref a :: rest)) rfl rfl (X.dec d)
  exact o_go (fun t k => st' t k) (g T' h' (X.mk' S' (Fr.snoc S' N ha) e') W' (A0.set W'))
theorem o_newarrayN (X : St K Z own b mx ret rm n0 k j T h) (cap : Nat) {aty : ArrayType} {n : Int32} (m : Nat) (d : Isn b pc (.newarray aty) 2 pc') (wd : (Jvm.Cond.arrayClass (newarray.typeOf aty)).before a0 Z = true) (hn : ¬ n < 0) (hm : n.toNatClampNeg = m) (hcap : m ≤ cap) (hdv : defaultValue (newarray.typeOf aty) = .int 0) (hr : cap * 8 ≤ 536870912 ∧ k + 1 ≤ rm.cells ∧ j + cap ≤ rm.slots)
    (g : ∀ T' h' a, a = h.size → St K Z own b mx ret rm n0 (k + 1) (j + cap) T' h' → Ext h h' → AN Z h' a (newarray.typeOf aty) m (fun _ => 0) → Go K n0 kc kj Q T' pc' Ls (.ref a :: rest)) : Go K n0 kc kj Q T pc Ls (.int n :: rest) := by
  obtain ⟨d, rfl⟩ := d; obtain ⟨locs, S, N⟩ := X.sd; have hR := X.rmE
  obtain ⟨T', h', cA, S', e', E', A', st'⟩ := newP S X.ex X.wZ wd X.hp (g := mkF K.m pc Ls (.int n :: rest)) rfl (X.dec d) rfl hn (hm ▸ hcap) hr.1 (by rw [hR]; exact hr.2.1) (by rw [hR]; exact hr.2.2)
  refine o_go (fun t k => st' t k) (g T' h' h.size rfl (X.mk' S' N e') E' ⟨_, A', ?_, ?_, fun i hi => ?_⟩)
  · simpa [newA] using hm
  · have := (back32 hn).2; omega
  · simp [newA, hm, hi, hdv]
/-- a long array, by a function of the place -/
def LN (Z : State) (h : Heap) (a : Addr) (n : Nat) (f : Nat → Int64) : Prop := ∃ c : Cell, Arr Z h a c .long ∧ c.slots.size = n ∧ n < 2 ^ 31 ∧ ∀ i, i < n → c.slots[i]? = some (.long (f i))
theorem LN.lt {a : Addr} {n : Nat} {f : Nat → Int64} (A : LN Z h a n f) : a < h.size := by obtain ⟨c, q, -⟩ := A; exact q.lt
theorem LN.ext {h' : Heap} {a : Addr} {n : Nat} {f : Nat → Int64} (A : LN Z h a n f) (E : Ext h h') : LN Z h' a n f := by obtain ⟨c, q, r⟩ := A; exact ⟨c, q.ext E, r⟩
theorem LN.other {h' : Heap} {a a' : Addr} {sl : Nat} {v : Value} {n : Nat} {f : Nat → Int64} (A : LN Z h a n f) (W : Wr h h' a' sl v) (ne : a ≠ a') : LN Z h' a n f := by obtain ⟨c, q, r⟩ := A; exact ⟨c, q.other W ne, r⟩
theorem LN.set {h' : Heap} {a : Addr} {sl : Nat} {v : Int64} {n : Nat} {f : Nat → Int64} (A : LN Z h a n f) (W : Wr h h' a sl (.long v)) : LN Z h' a n (fun i => if i = sl then v else f i) := by
  obtain ⟨c, q, r, s, t⟩ := A
  refine ⟨_, q.same W, by simpa [Cell.setSlot] using r, s, fun i hi => ?_⟩
  have e := t i hi
  by_cases p : i = sl
  · subst p; have : i < c.slots.size := r ▸ hi
    simp [Cell.setSlot, this]
  · have p' : ¬ sl = i := fun q => p q.symm
    simp [Cell.setSlot, Array.getElem?_setIfInBounds, p, p', e]
theorem o_alenL (X : St K Z own b mx ret rm n0 k j T h) {a : Addr} {n : Nat} {f : Nat → Int64} (z : Int32) (d : Isn b pc .arraylength 1 pc') (A : LN Z h a n f) (hn : n.toInt32 = z) (g : Go K n0 kc kj Q T pc' Ls (.int z :: rest)) : Go K n0 kc kj Q T pc Ls (.ref a :: rest) := by
  obtain ⟨d, rfl⟩ := d; obtain ⟨locs, S, N⟩ := X.sd; obtain ⟨c, q, r, s⟩ := A
  have e : c.slots.size.toInt32 = z := by rw [r, ← hn]
  exact o_go (fun t k => S.arraylength X.ex (cell := c) (by rw [X.hp]; exact q.1) (State.isArrayOf_alike X.wZ.alike q.2.1) (g := mkF K.m pc Ls (.ref a :: rest)) rfl (rest := rest) rfl (X.dec d) t (by rw [e]; exact k)) g
theorem o_laloadN (X : St K Z own b mx ret rm n0 k j T h) {a : Addr} {n : Nat} {f : Nat → Int64} {i : Int32} (d : Isn b pc .laload 1 pc') (A : LN Z h a n f) (hi : ¬ i < 0) (hl : i.toNatClampNeg < n) (g : Go K n0 kc kj Q T pc' Ls (.long (f i.toNatClampNeg) :: rest)) : Go K n0 kc kj Q T pc Ls (.int i :: .ref a :: rest) := by
  obtain ⟨d, rfl⟩ := d; obtain ⟨locs, S, N⟩ := X.sd; obtain ⟨c, q, r, s, t⟩ := A
  exact o_go (fun t' k => S.laload X.ex (j := i) (v := .long (f i.toNatClampNeg)) (by rw [X.hp]; exact q.1) (State.isArrayOf_alike X.wZ.alike q.2.1) q.2.2 (AN.inb r hi hl) (t _ hl) (g := mkF K.m pc Ls (.int i :: .ref a :: rest)) rfl rfl (X.dec d) t' k) g
theorem o_lastoreN (X : St K Z own b mx ret rm n0 k j T h) {a : Addr} {n : Nat} {f : Nat → Int64} {i : Int32} {v : Int64} (d : Isn b pc .lastore 1 pc') (A : LN Z h a n f) (hi : ¬ i < 0) (hl : i.toNatClampNeg < n) (ha : n0 ≤ a)
    (g : ∀ T' h', St K Z own b mx ret rm n0 k j T' h' → Wr h h' a i.toNatClampNeg (.long v) → LN Z h' a n (fun q => if q = i.toNatClampNeg then v else f q) → Go K n0 kc kj Q T' pc' Ls (rest)) : Go K n0 kc kj Q T pc Ls (.long v :: .int i :: .ref a :: rest) := by
  obtain ⟨d, rfl⟩ := d; obtain ⟨locs, S, N⟩ := X.sd; have A0 := A; obtain ⟨c, q, r, s⟩ := A
  obtain ⟨T', h', S', e', W', st'⟩ := stJ S X.ex X.wZ X.hp q (j := i) (x := v) (AN.inb r hi hl) (g := mkF K.m pc Ls (.long v :: .int i :: .ref a :: rest)) rfl rfl (X.dec d)
  exact o_go (fun t k => st' t k) (g T' h' (X.mk' S' (Fr.snoc S' N ha) e') W' (A0.set W'))
theorem o_newarrayL (X : St K Z own b mx ret rm n0 k j T h) (cap : Nat) {n : Int32} (m : Nat) (d : Isn b pc (.newarray .long) 2 pc') (wd : (Jvm.Cond.arrayClass .long).before a0 Z = true) (hn : ¬ n < 0) (hm : n.toNatClampNeg = m) (hcap : m ≤ cap) (hr : cap * 8 ≤ 536870912 ∧ k + 1 ≤ rm.cells ∧ j + cap ≤ rm.slots)
    (g : ∀ T' h' a, a = h.size → St K Z own b mx ret rm n0 (k + 1) (j + cap) T' h' → Ext h h' → LN Z h' a m (fun _ => 0) → Go K n0 kc kj Q T' pc' Ls (.ref a :: rest)) : Go K n0 kc kj Q T pc Ls (.int n :: rest) := by
  obtain ⟨d, rfl⟩ := d; obtain ⟨locs, S, N⟩ := X.sd; have hR := X.rmE
  obtain ⟨T', h', cA, S', e', E', A', st'⟩ := newP S X.ex X.wZ (aty := .long) wd X.hp (g := mkF K.m pc Ls (.int n :: rest)) rfl (X.dec d) rfl hn (hm ▸ hcap) hr.1 (by rw [hR]; exact hr.2.1) (by rw [hR]; exact hr.2.2)
  refine o_go (fun t k => st' t k) (g T' h' h.size rfl (X.mk' S' N e') E' ⟨_, A', ?_, ?_, fun i hi => ?_⟩)
  · simpa [newA] using hm
  · have := (back32 hn).2; omega
  · have e : defaultValue (newarray.typeOf .long) = .long 0 := rfl
    simp [newA, hm, hi, e]
/-- an object, by all the values of these fields of its class -/
def Obj (Z : State) (h : Heap) (a : Addr) (C : String) (ns : List (String × String)) (vs : List Value) : Prop := Exa Z h a C ∧ ns.length = vs.length ∧ ∀ (i : Nat) (n d : String) (v : Value), ns[i]? = some (n, d) → vs[i]? = some v → Fld Z h a C n d v
def LdAll (Z : State) (a0 : Array Value) (C : String) (ns : List (String × String)) : Prop := (ns.map Prod.fst).Nodup ∧ ∀ q ∈ ns, Laid Z a0 C C q.1 q.2 ∧ ∃ t, parseFieldDescriptor q.2 = some t
variable {h' : Heap} {a a' : Addr} {C : String} {ns : List (String × String)} {vs : List Value} {sl : Nat} {v : Value}
theorem Obj.lt (O : Obj Z h a C ns vs) : a < h.size := O.1.lt
theorem Obj.exa (O : Obj Z h a C ns vs) : Exa Z h a C := O.1
theorem Obj.ext (O : Obj Z h a C ns vs) (E : Ext h h') : Obj Z h' a C ns vs := ⟨O.1.ext E, O.2.1, fun i n d v q r => (O.2.2 i n d v q r).ext E⟩
theorem Obj.other (O : Obj Z h a C ns vs) (W : Wr h h' a' sl v) (ne : a ≠ a') : Obj Z h' a C ns vs := ⟨O.1.wr W, O.2.1, fun i n d v q r => (O.2.2 i n d v q r).other W (Or.inl ne)⟩
theorem Obj.keep {ws : List Addr} (O : Obj Z h a C ns vs) (Kp : Keep h h' ws) (ne : a ∉ ws) : Obj Z h' a C ns vs := ⟨O.1.keep Kp, O.2.1, fun i n d v q r => (O.2.2 i n d v q r).keep Kp ne⟩
theorem Obj.new (E : Exa Z h a C) (D : ∀ {O nm dd : String} {ty : FieldType}, Laid Z a0 C O nm dd → parseFieldDescriptor dd = some ty → Fld Z h a O nm dd (defaultValue ty)) (LA : LdAll Z a0 C ns) (ts : List FieldType) (ht : ns.map (fun q => parseFieldDescriptor q.2) = ts.map some) (hv : ts.map defaultValue = vs) : Obj Z h a C ns vs := by
  refine ⟨E, by rw [← hv]; simpa using congrArg List.length ht, fun i n d v q r => ?_⟩
  subst hv
  obtain ⟨t, ht1, rfl⟩ : ∃ t, ts[i]? = some t ∧ defaultValue t = v := by simpa using r
  have q2 := congrArg (fun L => L[i]?) ht
  simp [q, ht1] at q2
  exact D (LA.2 (n, d) (List.mem_of_getElem? q)).1 q2
theorem Obj.set (O : Obj Z h a C ns vs) (LA : LdAll Z a0 C ns) {n d : String} (W : Wr h h' a (Jvm.RoadKit.slotOf Z C n d) v) (i : Nat) (hi : ns[i]? = some (n, d)) : Obj Z h' a C ns (vs.set i v) := by
  refine ⟨O.1.wr W, by simpa using O.2.1, fun j n' d' v' q r => ?_⟩
  have hil : i < ns.length := (List.getElem?_eq_some_iff.mp hi).1
  by_cases e : i = j
  · subst e
    cases hi.symm.trans q
    have hiv : i < vs.length := O.2.1 ▸ hil
    obtain ⟨w, hw⟩ : ∃ w, vs[i]? = some w := ⟨_, List.getElem?_eq_getElem hiv⟩
    have : v = v' := by simpa [List.getElem?_set, hiv] using r
    subst this
    exact (O.2.2 i n d w hi hw).same W
  · have r' : vs[j]? = some v' := by rw [List.getElem?_set_ne e] at r; exact r
    refine (O.2.2 j n' d' v' q r').other W (Or.inr ?_)
    obtain ⟨l1, t1, p1⟩ := LA.2 _ (List.mem_of_getElem? q)
    obtain ⟨l2, t2, p2⟩ := LA.2 _ (List.mem_of_getElem? hi)
    refine slot_ne l1 l2 (fun eq => e ?_) p1 p2
    have hjl : j < ns.length := (List.getElem?_eq_some_iff.mp q).1
    have e1 : (ns.map Prod.fst)[i]? = some n := by simp [hi]
    have e2 : (ns.map Prod.fst)[j]? = some n' := by simp [q]
    have eq' : n' = n := eq
    subst eq'
    obtain ⟨x1, y1⟩ := List.getElem?_eq_some_iff.mp e1
    obtain ⟨x2, y2⟩ := List.getElem?_eq_some_iff.mp e2
    have P := List.pairwise_iff_getElem.mp LA.1
    rcases Nat.lt_trichotomy i j with z | z | z
    · exact absurd (y1.trans y2.symm) (P i j x1 x2 z)
    · exact z
    · exact absurd (y2.trans y1.symm) (P j i x2 x1 z)
theorem o_getO (X : St K Z own b mx ret rm n0 k j T h) {q : Nat} {n dd : String} (i : Nat) (d : Isn b pc (.getfield q) 3 pc') (wd : (Jvm.Cond.fieldLink own q C n dd).before a0 Z = true) (O : Obj Z h a C ns vs) (hi : ns[i]? = some (n, dd)) (hv : vs[i]? = some v)
    (g : ∀ T', St K Z own b mx ret rm n0 k j T' h → Go K n0 kc kj Q T' pc' Ls (v :: rest)) : Go K n0 kc kj Q T pc Ls (.ref a :: rest) := o_getF X d wd (O.2.2 i n dd v hi hv) g
theorem o_putO (X : St K Z own b mx ret rm n0 k j T h) {q kk : Nat} {n dd : String} {ty : FieldType} {vs' : List Value} (i : Nat) (d : Isn b pc (.putfield q) 3 pc') (wd : (Jvm.Cond.fieldLink own q C n dd).before a0 Z = true) (O : Obj Z h a C ns vs) (LA : LdAll Z a0 C ns) (hi : ns[i]? = some (n, dd))
    (Lf : (Jvm.Cond.lays C C n dd).before a0 Z = true ∨ ((Jvm.Cond.laysFinal C C n dd).before a0 Z = true ∧ own = C ∧ K.meth.name = "<init>")) (wi : (Jvm.Cond.instantiable C kk).before a0 Z = true) (hty : parseFieldDescriptor dd = some ty) (hn : narrow ty v = v) (hf : fits ty v = true) (ha : n0 ≤ a) (hv : vs.set i v = vs')
    (g : ∀ T' h', St K Z own b mx ret rm n0 k j T' h' → Wr h h' a (Jvm.RoadKit.slotOf Z C n dd) v → Obj Z h' a C ns vs' → Go K n0 kc kj Q T' pc' Ls (rest)) : Go K n0 kc kj Q T pc Ls (v :: .ref a :: rest) := by
  have hil : i < vs.length := O.2.1 ▸ (List.getElem?_eq_some_iff.mp hi).1
  exact o_putF X d wd (O.2.2 i n dd _ hi (List.getElem?_eq_getElem hil)) O.1 Lf wi hty hn hf ha fun T' h' X' W => g T' h' X' W (hv ▸ O.set LA W i hi)
end OwnKit
theorem pd0 : parseMethodDescriptor "([JJ)[B" = some ⟨[(.array .long), .long], some (.array .byte)⟩ := by decide +kernel
theorem pd1 : parseMethodDescriptor "([B)[J" = some ⟨[(.array .byte)], some (.array .long)⟩ := by decide +kernel
theorem pn0 : plainName "com/example/nodewell/nodewell/store/BitCursor" = true := by first | (simp [plainName, overriddenIn]; done) | decide +kernel
theorem pn1 : plainName "com/example/nodewell/nodewell/store/BitCursorToBytesPinLaw" = true := by first | (simp [plainName, overriddenIn]; done) | decide +kernel
theorem own_zero : (0 : Int32).toInt = 0 := by decide
theorem own_one : (1 : Int32).toInt = 1 := by decide
theorem own_7 : (7 : Int32).toInt = 7 := by decide
theorem own_two : (2 : Int32).toInt = 2 := by decide
theorem own_8 : (8 : Int32).toInt = 8 := by decide
theorem own_nat (i : Int32) : i.toNatClampNeg = i.toInt.toNat := rfl
theorem own_nn {i : Int32} (h : 0 ≤ i.toInt) : ¬ i < 0 := by rw [Int32.lt_iff_toInt_lt, own_zero]; omega
theorem own_rem (x y : Int32) (hy : 0 < y.toInt) : 0 ≤ ((x &&& 2147483647) % y).toInt ∧ ((x &&& 2147483647) % y).toInt < y.toInt := by
  have e : (x &&& 2147483647).toInt = x.toInt % (2 ^ 31 : Nat) := c_mask x 2147483647 31 (by decide) (by decide)
  have r := (c_iremV (x &&& 2147483647) y).1 (by omega) hy
  exact ⟨r.1, r.2.1⟩
theorem own_fin32 {x : Int32} {n : Nat} (i : Nat) (h0 : x.toInt = i) (h1 : i < n) (hn : n ≤ 1000) : x = Int32.ofNat i := by
  apply Int32.toInt_inj.mp
  rw [show Int32.ofNat i = i.toInt32 from rfl, len_toInt (by omega)]; exact h0
theorem own_ix (iv : Int32) (i : Nat) (h : iv.toInt = i) (hi : i < 16) : (iv / 8).toNatClampNeg = i / 8 ∧ 8 * (iv % 8) = Int32.ofNat (8 * (i % 8)) ∧ ¬ iv / 8 < 0 ∧ ¬ iv < 0 ∧ iv.toNatClampNeg = i := by
  have e := own_fin32 i h hi (by decide)
  have key : ∀ i : Fin 16, ((Int32.ofNat i.1) / 8).toNatClampNeg = i.1 / 8 ∧ 8 * ((Int32.ofNat i.1) % 8) = Int32.ofNat (8 * (i.1 % 8)) ∧ ¬ (Int32.ofNat i.1) / 8 < 0 ∧ ¬ Int32.ofNat i.1 < 0 ∧ (Int32.ofNat i.1).toNatClampNeg = i.1 := by decide
  rw [e]; exact key ⟨i, hi⟩
theorem own_inc (x : Int32) (h1 : -1000 ≤ x.toInt) (h2 : x.toInt ≤ 999) : (x + 1).toInt = x.toInt + 1 := by rw [XT.add32 (by rw [own_one]; exact ⟨by omega, by omega⟩), own_one]
theorem own_rl (x : Int32) (h0 : 0 ≤ x.toInt) (h1 : x.toInt ≤ 16) : ((x + 7) / 8).toInt = (x.toInt + 7) / 8 := by
  have e : (x + 7).toInt = x.toInt + 7 := by rw [XT.add32 (by rw [own_7]; exact ⟨by omega, by omega⟩), own_7]
  rw [(c_idiv (x + 7) 8 8 own_8 (by decide)).1 (by omega), e]
theorem own_len (x : Int64) (h0 : 0 ≤ x.toInt) (h1 : x.toInt ≤ 128) : ((x + 7) / 8).toInt32.toInt = (x.toInt + 7) / 8 := by
  have c7 : (7 : Int64).toInt = 7 := by decide
  have c8 : (8 : Int64).toInt = 8 := by decide
  have e : (x + 7).toInt = x.toInt + 7 := by rw [XT.add64 (by rw [c7]; exact ⟨by omega, by omega⟩), c7]
  have e2 := (c_ldiv (x + 7) 8 8 c8 (by decide)).1 (by omega)
  rw [XT.narrowInt (by rw [e2, e]; exact ⟨by omega, by omega⟩), e2, e]
/-- the j-th byte of w -/
def own_by (w : Int64) (j : Nat) : Int32 := (XT.ushrL w (Int32.ofNat (8 * j))).toInt32.toInt8.toInt32
def own_acc (f : Nat → Int32) : Nat → Nat → Int64
  | 0, _ => 0
  | i + 1, k => if k = i / 8 then own_acc f i k ||| (((f i).toInt64 &&& 255) <<< ((Int32.ofNat (8 * (i % 8))).toInt64 &&& 63)) else own_acc f i k
theorem own_nar (z : Int32) : nar .byte z.toInt8.toInt32 = z.toInt8.toInt32 := by
  show z.toInt8.toInt32.toInt8.toInt32 = _
  simp
def own_M (j : Nat) : Int64 := Int64.ofBitVec ((BitVec.allOnes 64) >>> (64 - 8 * j))
theorem own_Mb (j i : Nat) (hi : i < 64) : (own_M j).toBitVec.getLsbD i = decide (i < 8 * j) := by
  show ((BitVec.allOnes 64) >>> (64 - 8 * j)).getLsbD i = _
  simp only [BitVec.getLsbD_ushiftRight, BitVec.getLsbD_allOnes]
  by_cases q : i < 8 * j
  · simp only [q, decide_true, decide_eq_true_eq]; omega
  · simp only [q, decide_false, decide_eq_false_iff_not]; omega
theorem own_shr (w : Int64) (j : Nat) (hj : j < 8) : (XT.ushrL w (Int32.ofNat (8 * j))).toBitVec = w.toBitVec >>> (8 * j) := by
  have key : ∀ j : Fin 8, ((((Int32.ofNat (8 * j.1)).toInt64.toUInt64 &&& Int64.toUInt64 63)).toBitVec % 64#64).toNat = 8 * j.1 := by decide
  exact congrArg (fun n => w.toBitVec >>> n) (key ⟨j, hj⟩)
theorem own_shl (w : Int64) (j : Nat) (hj : j < 8) : (w <<< ((Int32.ofNat (8 * j)).toInt64 &&& 63)).toBitVec = w.toBitVec <<< (8 * j) := by
  have key : ∀ j : Fin 8, ((((Int32.ofNat (8 * j.1)).toInt64 &&& 63)).toBitVec.smod 64#64).toNat = 8 * j.1 := by decide
  exact congrArg (fun n => w.toBitVec <<< n) (key ⟨j, hj⟩)
theorem own_ext8 (x : Int64) (i : Nat) (hi : i < 64) : (x.toInt32.toInt8.toInt32.toInt64).toBitVec.getLsbD i = if i < 8 then x.toBitVec.getLsbD i else x.toBitVec.getLsbD 7 := by
  simp only [Int32.toBitVec_toInt64, Int8.toBitVec_toInt32, Int32.toBitVec_toInt8, Int64.toBitVec_toInt32, BitVec.getLsbD_signExtend, BitVec.getLsbD_setWidth, BitVec.msb_eq_getLsbD_last]
  by_cases q : i < 8
  · have : i < 32 := by omega
    simp [q, this, hi]
  · by_cases q2 : i < 32
    · simp [q, q2, hi]
    · simp [q, q2, hi]
theorem own_255 (i : Nat) (hi : i < 64) : (255 : Int64).toBitVec.getLsbD i = decide (i < 8) := by
  have key : ∀ i : Fin 64, (255 : Int64).toBitVec.getLsbD i.1 = decide (i.1 < 8) := by decide
  exact key ⟨i, hi⟩
theorem own_step (w : Int64) (j : Nat) (hj : j < 8) : (w &&& own_M j) ||| (((own_by w j).toInt64 &&& 255) <<< ((Int32.ofNat (8 * j)).toInt64 &&& 63)) = w &&& own_M (j + 1) := by
  apply Int64.toBitVec_inj.mp
  rw [Int64.toBitVec_or, own_shl _ j hj, Int64.toBitVec_and, Int64.toBitVec_and, Int64.toBitVec_and]
  apply BitVec.eq_of_getLsbD_eq; intro i hi
  simp only [BitVec.getLsbD_or, BitVec.getLsbD_and, BitVec.getLsbD_shiftLeft, own_Mb _ _ hi]
  by_cases q : i < 8 * j
  · have : i < 8 * (j + 1) := by omega
    simp [q, this]
  · have q1 : i - 8 * j < 64 := by omega
    rw [own_255 _ q1]
    rw [show (own_by w j).toInt64.toBitVec.getLsbD (i - 8 * j) = if i - 8 * j < 8 then (XT.ushrL w (Int32.ofNat (8 * j))).toBitVec.getLsbD (i - 8 * j) else (XT.ushrL w (Int32.ofNat (8 * j))).toBitVec.getLsbD 7 from own_ext8 _ _ q1, own_shr w j hj]
    simp only [BitVec.getLsbD_ushiftRight]
    by_cases q2 : i < 8 * (j + 1)
    · have q3 : i - 8 * j < 8 := by omega
      have q4 : 8 * j + (i - 8 * j) = i := by omega
      simp [q, q2, q3, q4, hi]
    · have q3 : ¬ i - 8 * j < 8 := by omega
      simp [q, q2, q3]
theorem own_Mz (w : Int64) : w &&& own_M 0 = 0 := by
  apply Int64.toBitVec_inj.mp
  apply BitVec.eq_of_getLsbD_eq; intro i hi
  rw [Int64.toBitVec_and, BitVec.getLsbD_and, own_Mb _ _ hi]; simp
theorem own_M8 (w : Int64) : w &&& own_M 8 = w := by
  apply Int64.toBitVec_inj.mp
  apply BitVec.eq_of_getLsbD_eq; intro i hi
  rw [Int64.toBitVec_and, BitVec.getLsbD_and, own_Mb _ _ hi]; simp; omega
theorem own_accE (f : Nat → Int32) (W : Nat → Int64) (N : Nat) (hN : N ≤ 16) (F : ∀ z, z < N → f z = own_by (W (z / 8)) (z % 8)) : ∀ i, i ≤ N → own_acc f i 0 = W 0 &&& own_M (min i 8) ∧ own_acc f i 1 = W 1 &&& own_M (i - 8) := by
  intro i
  induction i with
  | zero => intro _; exact ⟨by simp only [own_acc, Nat.zero_min, own_Mz], by simp only [own_acc, Nat.zero_sub, own_Mz]⟩
  | succ i ih =>
    intro hi
    obtain ⟨h0, h1⟩ := ih (by omega)
    simp only [own_acc]
    by_cases q : i < 8
    · have d : i / 8 = 0 := by omega
      have r : i % 8 = i := by omega
      rw [if_pos d.symm, if_neg (by omega), h0, h1, F i (by omega), d, r, Nat.min_eq_left (by omega), Nat.min_eq_left (by omega), own_step _ _ q]
      exact ⟨rfl, by rw [Nat.sub_eq_zero_of_le (by omega), Nat.sub_eq_zero_of_le (by omega)]⟩
    · have d : i / 8 = 1 := by omega
      have r : i % 8 = i - 8 := by omega
      rw [if_neg (by omega), if_pos d.symm, h0, h1, F i (by omega), d, r, Nat.min_eq_right (by omega), Nat.min_eq_right (by omega), own_step _ _ (by omega)]
      exact ⟨rfl, by rw [show i - 8 + 1 = i + 1 - 8 by omega]⟩
/-- the law's own mask -/
theorem own_mask (l : Int32) (j : Nat) (h : l.toInt = j) (hj : j < 8) : (1 : Int64) <<< ((8 * l).toInt64 &&& 63) - 1 = own_M j := by
  have e := own_fin32 j h hj (by decide)
  have key : ∀ j : Fin 8, (1 : Int64) <<< ((8 * Int32.ofNat j.1).toInt64 &&& 63) - 1 = own_M j.1 := by decide
  rw [e]; exact key ⟨j, hj⟩
theorem own_byL (w : Int64) (jj : Int32) (j : Nat) (h : jj.toInt = j) (hj : j < 8) : (own_by w j).toInt64 = (w <<< ((56 - 8 * jj).toInt64 &&& 63)) >>> ((56 : Int32).toInt64 &&& 63) := by
  have e := own_fin32 j h hj (by decide)
  rw [e]
  apply Int64.toBitVec_inj.mp
  have key : ∀ j : Fin 8, ((((56 - 8 * Int32.ofNat j.1).toInt64 &&& 63)).toBitVec.smod 64#64).toNat = 56 - 8 * j.1 := by decide
  have k := key ⟨j, hj⟩
  have e1 : (w <<< ((56 - 8 * Int32.ofNat j).toInt64 &&& 63)).toBitVec = w.toBitVec <<< (56 - 8 * j) := congrArg (fun n => w.toBitVec <<< n) k
  have e2 : ∀ x : Int64, (x >>> ((56 : Int32).toInt64 &&& 63)).toBitVec = x.toBitVec.sshiftRight 56 := fun x => rfl
  rw [e2, e1]
  apply BitVec.eq_of_getLsbD_eq; intro i hi
  rw [show (own_by w j).toInt64.toBitVec.getLsbD i = if i < 8 then (XT.ushrL w (Int32.ofNat (8 * j))).toBitVec.getLsbD i else (XT.ushrL w (Int32.ofNat (8 * j))).toBitVec.getLsbD 7 from own_ext8 _ _ hi, own_shr w j hj]
  simp only [BitVec.getLsbD_ushiftRight, BitVec.getLsbD_sshiftRight, BitVec.getLsbD_shiftLeft, BitVec.msb_eq_getLsbD_last]
  by_cases q : i < 8
  · have q1 : 56 + i < 64 := by omega
    have q2 : ¬ 56 + i < 56 - 8 * j := by omega
    have q3 : 56 + i - (56 - 8 * j) = 8 * j + i := by omega
    simp [q, q1, q2, q3, hi]
  · have q1 : ¬ 56 + i < 64 := by omega
    have q2 : ¬ 63 < 56 - 8 * j := by omega
    have q3 : 63 - (56 - 8 * j) = 8 * j + 7 := by omega
    simp [q, q1, q2, q3, hi]
theorem own_e0 (f : Nat → Int32) (W : Nat → Int64) (l : Int32) (N : Nat) (h : l.toInt = N) (hN : N ≤ 16) (F : ∀ z, z < N → f z = own_by (W (z / 8)) (z % 8)) : own_acc f N 0 = if l < 8 then W 0 &&& ((1 : Int64) <<< ((8 * l).toInt64 &&& 63) - 1) else W 0 := by
  rw [(own_accE f W N hN F N (Nat.le_refl _)).1]
  split
  · rename_i q; rw [Int32.lt_iff_toInt_lt, own_8] at q
    rw [own_mask l N h (by omega), Nat.min_eq_left (by omega)]
  · rename_i q; rw [Int32.lt_iff_toInt_lt, own_8] at q
    rw [Nat.min_eq_right (by omega), own_M8]
theorem own_e1 (f : Nat → Int32) (W : Nat → Int64) (l : Int32) (N : Nat) (h : l.toInt = N) (hN : N ≤ 16) (h9 : 8 ≤ N) (F : ∀ z, z < N → f z = own_by (W (z / 8)) (z % 8)) : own_acc f N 1 = if l < 16 then W 1 &&& ((1 : Int64) <<< ((8 * (l - 8)).toInt64 &&& 63) - 1) else W 1 := by
  have c16 : (16 : Int32).toInt = 16 := by decide
  have e : (l - 8).toInt = ((N - 8 : Nat) : Int) := by rw [XT.sub32 (by rw [own_8]; exact ⟨by omega, by omega⟩), own_8]; omega
  rw [(own_accE f W N hN F N (Nat.le_refl _)).2]
  split
  · rename_i q; rw [Int32.lt_iff_toInt_lt, c16] at q
    rw [own_mask (l - 8) (N - 8) e (by omega)]
  · rename_i q; rw [Int32.lt_iff_toInt_lt, c16] at q
    rw [show N - 8 = 8 by omega, own_M8]

theorem own_three {n : Int32} (h0 : 0 ≤ n.toInt) (h1 : n.toInt < (3 : Int32).toInt) : n = 0 ∨ n = 1 ∨ n = 2 := by
  have c3 : (3 : Int32).toInt = 3 := by decide
  have k : ∀ c : Int32, n.toInt = c.toInt → n = c := fun c hc => Int32.toInt_inj.mp hc
  have cs : n.toInt = 0 ∨ n.toInt = 1 ∨ n.toInt = 2 := by omega
  exact cs.imp (k 0) fun q => q.imp (k 1) (k 2)

theorem f1_0 : Isn prog_43_method_8_code 0 (.lload_n 1) 1 1 := ⟨by decide +kernel, rfl⟩
theorem f1_1 : Isn prog_43_method_8_code 1 (.ldc2_w 27) 3 4 := ⟨by decide +kernel, rfl⟩
theorem f1_4 : Isn prog_43_method_8_code 4 (.ladd) 1 5 := ⟨by decide +kernel, rfl⟩
theorem f1_5 : Isn prog_43_method_8_code 5 (.ldc2_w 29) 3 8 := ⟨by decide +kernel, rfl⟩
theorem f1_8 : Isn prog_43_method_8_code 8 (.ldiv) 1 9 := ⟨by decide +kernel, rfl⟩
theorem f1_9 : Isn prog_43_method_8_code 9 (.l2i) 1 10 := ⟨by decide +kernel, rfl⟩
theorem f1_10 : Isn prog_43_method_8_code 10 (.newarray .byte) 2 12 := ⟨by decide +kernel, rfl⟩
theorem f1_12 : Isn prog_43_method_8_code 12 (.astore_n 3) 1 13 := ⟨by decide +kernel, rfl⟩
theorem f1_13 : Isn prog_43_method_8_code 13 (.iconst 0) 1 14 := ⟨by decide +kernel, rfl⟩
theorem f1_14 : Isn prog_43_method_8_code 14 (.istore 4) 2 16 := ⟨by decide +kernel, rfl⟩
theorem f1_16 : Isn prog_43_method_8_code 16 (.iload 4) 2 18 := ⟨by decide +kernel, rfl⟩
theorem f1_18 : Isn prog_43_method_8_code 18 (.aload_n 3) 1 19 := ⟨by decide +kernel, rfl⟩
theorem f1_19 : Isn prog_43_method_8_code 19 (.arraylength) 1 20 := ⟨by decide +kernel, rfl⟩
theorem f1_20 : Brn prog_43_method_8_code 20 (.if_icmp .ge 31) 31 23 51 := ⟨by decide +kernel, rfl, by decide, by decide⟩
theorem f1_23 : Isn prog_43_method_8_code 23 (.aload_n 3) 1 24 := ⟨by decide +kernel, rfl⟩
theorem f1_24 : Isn prog_43_method_8_code 24 (.iload 4) 2 26 := ⟨by decide +kernel, rfl⟩
theorem f1_26 : Isn prog_43_method_8_code 26 (.aload_n 0) 1 27 := ⟨by decide +kernel, rfl⟩
theorem f1_27 : Isn prog_43_method_8_code 27 (.iload 4) 2 29 := ⟨by decide +kernel, rfl⟩
theorem f1_29 : Isn prog_43_method_8_code 29 (.bipush 8) 2 31 := ⟨by decide +kernel, rfl⟩
theorem f1_31 : Isn prog_43_method_8_code 31 (.idiv) 1 32 := ⟨by decide +kernel, rfl⟩
theorem f1_32 : Isn prog_43_method_8_code 32 (.laload) 1 33 := ⟨by decide +kernel, rfl⟩
theorem f1_33 : Isn prog_43_method_8_code 33 (.bipush 8) 2 35 := ⟨by decide +kernel, rfl⟩
theorem f1_35 : Isn prog_43_method_8_code 35 (.iload 4) 2 37 := ⟨by decide +kernel, rfl⟩
theorem f1_37 : Isn prog_43_method_8_code 37 (.bipush 8) 2 39 := ⟨by decide +kernel, rfl⟩
theorem f1_39 : Isn prog_43_method_8_code 39 (.irem) 1 40 := ⟨by decide +kernel, rfl⟩
theorem f1_40 : Isn prog_43_method_8_code 40 (.imul) 1 41 := ⟨by decide +kernel, rfl⟩
theorem f1_41 : Isn prog_43_method_8_code 41 (.lushr) 1 42 := ⟨by decide +kernel, rfl⟩
theorem f1_42 : Isn prog_43_method_8_code 42 (.l2i) 1 43 := ⟨by decide +kernel, rfl⟩
theorem f1_43 : Isn prog_43_method_8_code 43 (.i2b) 1 44 := ⟨by decide +kernel, rfl⟩
theorem f1_44 : Isn prog_43_method_8_code 44 (.bastore) 1 45 := ⟨by decide +kernel, rfl⟩
theorem f1_45 : Isn prog_43_method_8_code 45 (.iinc 4 1) 3 48 := ⟨by decide +kernel, rfl⟩
theorem f1_48 : Brn prog_43_method_8_code 48 (.goto (-32)) (-32) 51 16 := ⟨by decide +kernel, rfl, by decide, by decide⟩
theorem f1_51 : Isn prog_43_method_8_code 51 (.aload_n 3) 1 52 := ⟨by decide +kernel, rfl⟩
theorem f1_52 : Isn prog_43_method_8_code 52 (.areturn) 1 53 := ⟨by decide +kernel, rfl⟩
theorem f2_0 : Isn prog_43_method_9_code 0 (.aload_n 0) 1 1 := ⟨by decide +kernel, rfl⟩
theorem f2_1 : Isn prog_43_method_9_code 1 (.arraylength) 1 2 := ⟨by decide +kernel, rfl⟩
theorem f2_2 : Isn prog_43_method_9_code 2 (.bipush 7) 2 4 := ⟨by decide +kernel, rfl⟩
theorem f2_4 : Isn prog_43_method_9_code 4 (.iadd) 1 5 := ⟨by decide +kernel, rfl⟩
theorem f2_5 : Isn prog_43_method_9_code 5 (.bipush 8) 2 7 := ⟨by decide +kernel, rfl⟩
theorem f2_7 : Isn prog_43_method_9_code 7 (.idiv) 1 8 := ⟨by decide +kernel, rfl⟩
theorem f2_8 : Isn prog_43_method_9_code 8 (.newarray .long) 2 10 := ⟨by decide +kernel, rfl⟩
theorem f2_10 : Isn prog_43_method_9_code 10 (.astore_n 1) 1 11 := ⟨by decide +kernel, rfl⟩
theorem f2_11 : Isn prog_43_method_9_code 11 (.iconst 0) 1 12 := ⟨by decide +kernel, rfl⟩
theorem f2_12 : Isn prog_43_method_9_code 12 (.istore_n 2) 1 13 := ⟨by decide +kernel, rfl⟩
theorem f2_13 : Isn prog_43_method_9_code 13 (.iload_n 2) 1 14 := ⟨by decide +kernel, rfl⟩
theorem f2_14 : Isn prog_43_method_9_code 14 (.aload_n 0) 1 15 := ⟨by decide +kernel, rfl⟩
theorem f2_15 : Isn prog_43_method_9_code 15 (.arraylength) 1 16 := ⟨by decide +kernel, rfl⟩
theorem f2_16 : Brn prog_43_method_9_code 16 (.if_icmp .ge 34) 34 19 50 := ⟨by decide +kernel, rfl, by decide, by decide⟩
theorem f2_19 : Isn prog_43_method_9_code 19 (.aload_n 1) 1 20 := ⟨by decide +kernel, rfl⟩
theorem f2_20 : Isn prog_43_method_9_code 20 (.iload_n 2) 1 21 := ⟨by decide +kernel, rfl⟩
theorem f2_21 : Isn prog_43_method_9_code 21 (.bipush 8) 2 23 := ⟨by decide +kernel, rfl⟩
theorem f2_23 : Isn prog_43_method_9_code 23 (.idiv) 1 24 := ⟨by decide +kernel, rfl⟩
theorem f2_24 : Isn prog_43_method_9_code 24 (.dup2) 1 25 := ⟨by decide +kernel, rfl⟩
theorem f2_25 : Isn prog_43_method_9_code 25 (.laload) 1 26 := ⟨by decide +kernel, rfl⟩
theorem f2_26 : Isn prog_43_method_9_code 26 (.aload_n 0) 1 27 := ⟨by decide +kernel, rfl⟩
theorem f2_27 : Isn prog_43_method_9_code 27 (.iload_n 2) 1 28 := ⟨by decide +kernel, rfl⟩
theorem f2_28 : Isn prog_43_method_9_code 28 (.baload) 1 29 := ⟨by decide +kernel, rfl⟩
theorem f2_29 : Isn prog_43_method_9_code 29 (.i2l) 1 30 := ⟨by decide +kernel, rfl⟩
theorem f2_30 : Isn prog_43_method_9_code 30 (.ldc2_w 31) 3 33 := ⟨by decide +kernel, rfl⟩
theorem f2_33 : Isn prog_43_method_9_code 33 (.land) 1 34 := ⟨by decide +kernel, rfl⟩
theorem f2_34 : Isn prog_43_method_9_code 34 (.bipush 8) 2 36 := ⟨by decide +kernel, rfl⟩
theorem f2_36 : Isn prog_43_method_9_code 36 (.iload_n 2) 1 37 := ⟨by decide +kernel, rfl⟩
theorem f2_37 : Isn prog_43_method_9_code 37 (.bipush 8) 2 39 := ⟨by decide +kernel, rfl⟩
theorem f2_39 : Isn prog_43_method_9_code 39 (.irem) 1 40 := ⟨by decide +kernel, rfl⟩
theorem f2_40 : Isn prog_43_method_9_code 40 (.imul) 1 41 := ⟨by decide +kernel, rfl⟩
theorem f2_41 : Isn prog_43_method_9_code 41 (.lshl) 1 42 := ⟨by decide +kernel, rfl⟩
theorem f2_42 : Isn prog_43_method_9_code 42 (.lor) 1 43 := ⟨by decide +kernel, rfl⟩
theorem f2_43 : Isn prog_43_method_9_code 43 (.lastore) 1 44 := ⟨by decide +kernel, rfl⟩
theorem f2_44 : Isn prog_43_method_9_code 44 (.iinc 2 1) 3 47 := ⟨by decide +kernel, rfl⟩
theorem f2_47 : Brn prog_43_method_9_code 47 (.goto (-34)) (-34) 50 13 := ⟨by decide +kernel, rfl, by decide, by decide⟩
theorem f2_50 : Isn prog_43_method_9_code 50 (.aload_n 1) 1 51 := ⟨by decide +kernel, rfl⟩
theorem f2_51 : Isn prog_43_method_9_code 51 (.areturn) 1 52 := ⟨by decide +kernel, rfl⟩
theorem f0_0 : Isn code 0 (.iload 4) 2 2 := ⟨at_0, rfl⟩
theorem f0_2 : Isn code 2 (.ldc 7) 2 4 := ⟨at_2, rfl⟩
theorem f0_4 : Isn code 4 (.iand) 1 5 := ⟨at_4, rfl⟩
theorem f0_5 : Isn code 5 (.iconst 3) 1 6 := ⟨at_5, rfl⟩
theorem f0_6 : Isn code 6 (.irem) 1 7 := ⟨at_6, rfl⟩
theorem f0_7 : Isn code 7 (.istore 7) 2 9 := ⟨at_7, rfl⟩
theorem f0_9 : Isn code 9 (.iload 7) 2 11 := ⟨at_9, rfl⟩
theorem f0_11 : Brn code 11 (.ifCond .ne 9) 9 14 20 := ⟨at_11, rfl, by decide, by decide⟩
theorem f0_14 : Isn code 14 (.iconst 0) 1 15 := ⟨at_14, rfl⟩
theorem f0_15 : Isn code 15 (.newarray .long) 2 17 := ⟨at_15, rfl⟩
theorem f0_17 : Brn code 17 (.goto 30) 30 20 47 := ⟨at_17, rfl, by decide, by decide⟩
theorem f0_20 : Isn code 20 (.iload 7) 2 22 := ⟨at_20, rfl⟩
theorem f0_22 : Isn code 22 (.iconst 1) 1 23 := ⟨at_22, rfl⟩
theorem f0_23 : Brn code 23 (.if_icmp .ne 13) 13 26 36 := ⟨at_23, rfl, by decide, by decide⟩
theorem f0_26 : Isn code 26 (.iconst 1) 1 27 := ⟨at_26, rfl⟩
theorem f0_27 : Isn code 27 (.newarray .long) 2 29 := ⟨at_27, rfl⟩
theorem f0_29 : Isn code 29 (.dup) 1 30 := ⟨at_29, rfl⟩
theorem f0_30 : Isn code 30 (.iconst 0) 1 31 := ⟨at_30, rfl⟩
theorem f0_31 : Isn code 31 (.lload_n 0) 1 32 := ⟨at_31, rfl⟩
theorem f0_32 : Isn code 32 (.lastore) 1 33 := ⟨at_32, rfl⟩
theorem f0_33 : Brn code 33 (.goto 14) 14 36 47 := ⟨at_33, rfl, by decide, by decide⟩
theorem f0_36 : Isn code 36 (.iconst 2) 1 37 := ⟨at_36, rfl⟩
theorem f0_37 : Isn code 37 (.newarray .long) 2 39 := ⟨at_37, rfl⟩
theorem f0_39 : Isn code 39 (.dup) 1 40 := ⟨at_39, rfl⟩
theorem f0_40 : Isn code 40 (.iconst 0) 1 41 := ⟨at_40, rfl⟩
theorem f0_41 : Isn code 41 (.lload_n 0) 1 42 := ⟨at_41, rfl⟩
theorem f0_42 : Isn code 42 (.lastore) 1 43 := ⟨at_42, rfl⟩
theorem f0_43 : Isn code 43 (.dup) 1 44 := ⟨at_43, rfl⟩
theorem f0_44 : Isn code 44 (.iconst 1) 1 45 := ⟨at_44, rfl⟩
theorem f0_45 : Isn code 45 (.lload_n 2) 1 46 := ⟨at_45, rfl⟩
theorem f0_46 : Isn code 46 (.lastore) 1 47 := ⟨at_46, rfl⟩
theorem f0_47 : Isn code 47 (.astore 8) 2 49 := ⟨at_47, rfl⟩
theorem f0_49 : Isn code 49 (.iload 5) 2 51 := ⟨at_49, rfl⟩
theorem f0_51 : Isn code 51 (.ldc 7) 2 53 := ⟨at_51, rfl⟩
theorem f0_53 : Isn code 53 (.iand) 1 54 := ⟨at_53, rfl⟩
theorem f0_54 : Isn code 54 (.bipush 64) 2 56 := ⟨at_54, rfl⟩
theorem f0_56 : Isn code 56 (.iload 7) 2 58 := ⟨at_56, rfl⟩
theorem f0_58 : Isn code 58 (.imul) 1 59 := ⟨at_58, rfl⟩
theorem f0_59 : Isn code 59 (.iconst 1) 1 60 := ⟨at_59, rfl⟩
theorem f0_60 : Isn code 60 (.iadd) 1 61 := ⟨at_60, rfl⟩
theorem f0_61 : Isn code 61 (.irem) 1 62 := ⟨at_61, rfl⟩
theorem f0_62 : Isn code 62 (.i2l) 1 63 := ⟨at_62, rfl⟩
theorem f0_63 : Isn code 63 (.lstore 9) 2 65 := ⟨at_63, rfl⟩
theorem f0_65 : Isn code 65 (.lload 9) 2 67 := ⟨at_65, rfl⟩
theorem f0_67 : Isn code 67 (.ldc2_w 8) 3 70 := ⟨at_67, rfl⟩
theorem f0_70 : Isn code 70 (.ladd) 1 71 := ⟨at_70, rfl⟩
theorem f0_71 : Isn code 71 (.ldc2_w 10) 3 74 := ⟨at_71, rfl⟩
theorem f0_74 : Isn code 74 (.ldiv) 1 75 := ⟨at_74, rfl⟩
theorem f0_75 : Isn code 75 (.l2i) 1 76 := ⟨at_75, rfl⟩
theorem f0_76 : Isn code 76 (.istore 11) 2 78 := ⟨at_76, rfl⟩
theorem f0_78 : Isn code 78 (.aload 8) 2 80 := ⟨at_78, rfl⟩
theorem f0_80 : Isn code 80 (.lload 9) 2 82 := ⟨at_80, rfl⟩
theorem f0_82 : Isn code 82 (.invokestatic 12) 3 85 := ⟨at_82, rfl⟩
theorem f0_85 : Isn code 85 (.astore 12) 2 87 := ⟨at_85, rfl⟩
theorem f0_87 : Isn code 87 (.aload 12) 2 89 := ⟨at_87, rfl⟩
theorem f0_89 : Isn code 89 (.arraylength) 1 90 := ⟨at_89, rfl⟩
theorem f0_90 : Isn code 90 (.iload 11) 2 92 := ⟨at_90, rfl⟩
theorem f0_92 : Brn code 92 (.if_icmp .eq 5) 5 95 97 := ⟨at_92, rfl, by decide, by decide⟩
theorem f0_95 : Isn code 95 (.iconst 0) 1 96 := ⟨at_95, rfl⟩
theorem f0_96 : Isn code 96 (.ireturn) 1 97 := ⟨at_96, rfl⟩
theorem f0_97 : Isn code 97 (.iload 6) 2 99 := ⟨at_97, rfl⟩
theorem f0_99 : Isn code 99 (.ldc 7) 2 101 := ⟨at_99, rfl⟩
theorem f0_101 : Isn code 101 (.iand) 1 102 := ⟨at_101, rfl⟩
theorem f0_102 : Isn code 102 (.bipush 16) 2 104 := ⟨at_102, rfl⟩
theorem f0_104 : Isn code 104 (.irem) 1 105 := ⟨at_104, rfl⟩
theorem f0_105 : Isn code 105 (.istore 13) 2 107 := ⟨at_105, rfl⟩
theorem f0_107 : Isn code 107 (.iload 13) 2 109 := ⟨at_107, rfl⟩
theorem f0_109 : Isn code 109 (.iload 11) 2 111 := ⟨at_109, rfl⟩
theorem f0_111 : Brn code 111 (.if_icmp .ge 54) 54 114 165 := ⟨at_111, rfl, by decide, by decide⟩
theorem f0_114 : Isn code 114 (.iload 13) 2 116 := ⟨at_114, rfl⟩
theorem f0_116 : Isn code 116 (.bipush 8) 2 118 := ⟨at_116, rfl⟩
theorem f0_118 : Brn code 118 (.if_icmp .ge 7) 7 121 125 := ⟨at_118, rfl, by decide, by decide⟩
theorem f0_121 : Isn code 121 (.lload_n 0) 1 122 := ⟨at_121, rfl⟩
theorem f0_122 : Brn code 122 (.goto 4) 4 125 126 := ⟨at_122, rfl, by decide, by decide⟩
theorem f0_125 : Isn code 125 (.lload_n 2) 1 126 := ⟨at_125, rfl⟩
theorem f0_126 : Isn code 126 (.lstore 14) 2 128 := ⟨at_126, rfl⟩
theorem f0_128 : Isn code 128 (.iload 13) 2 130 := ⟨at_128, rfl⟩
theorem f0_130 : Isn code 130 (.bipush 8) 2 132 := ⟨at_130, rfl⟩
theorem f0_132 : Isn code 132 (.irem) 1 133 := ⟨at_132, rfl⟩
theorem f0_133 : Isn code 133 (.istore 16) 2 135 := ⟨at_133, rfl⟩
theorem f0_135 : Isn code 135 (.lload 14) 2 137 := ⟨at_135, rfl⟩
theorem f0_137 : Isn code 137 (.bipush 56) 2 139 := ⟨at_137, rfl⟩
theorem f0_139 : Isn code 139 (.bipush 8) 2 141 := ⟨at_139, rfl⟩
theorem f0_141 : Isn code 141 (.iload 16) 2 143 := ⟨at_141, rfl⟩
theorem f0_143 : Isn code 143 (.imul) 1 144 := ⟨at_143, rfl⟩
theorem f0_144 : Isn code 144 (.isub) 1 145 := ⟨at_144, rfl⟩
theorem f0_145 : Isn code 145 (.lshl) 1 146 := ⟨at_145, rfl⟩
theorem f0_146 : Isn code 146 (.bipush 56) 2 148 := ⟨at_146, rfl⟩
theorem f0_148 : Isn code 148 (.lshr) 1 149 := ⟨at_148, rfl⟩
theorem f0_149 : Isn code 149 (.lstore 17) 2 151 := ⟨at_149, rfl⟩
theorem f0_151 : Isn code 151 (.aload 12) 2 153 := ⟨at_151, rfl⟩
theorem f0_153 : Isn code 153 (.iload 13) 2 155 := ⟨at_153, rfl⟩
theorem f0_155 : Isn code 155 (.baload) 1 156 := ⟨at_155, rfl⟩
theorem f0_156 : Isn code 156 (.i2l) 1 157 := ⟨at_156, rfl⟩
theorem f0_157 : Isn code 157 (.lload 17) 2 159 := ⟨at_157, rfl⟩
theorem f0_159 : Isn code 159 (.lcmp) 1 160 := ⟨at_159, rfl⟩
theorem f0_160 : Brn code 160 (.ifCond .eq 5) 5 163 165 := ⟨at_160, rfl, by decide, by decide⟩
theorem f0_163 : Isn code 163 (.iconst 0) 1 164 := ⟨at_163, rfl⟩
theorem f0_164 : Isn code 164 (.ireturn) 1 165 := ⟨at_164, rfl⟩
theorem f0_165 : Isn code 165 (.aload 12) 2 167 := ⟨at_165, rfl⟩
theorem f0_167 : Isn code 167 (.invokestatic 18) 3 170 := ⟨at_167, rfl⟩
theorem f0_170 : Isn code 170 (.astore 14) 2 172 := ⟨at_170, rfl⟩
theorem f0_172 : Isn code 172 (.iload 11) 2 174 := ⟨at_172, rfl⟩
theorem f0_174 : Isn code 174 (.bipush 7) 2 176 := ⟨at_174, rfl⟩
theorem f0_176 : Isn code 176 (.iadd) 1 177 := ⟨at_176, rfl⟩
theorem f0_177 : Isn code 177 (.bipush 8) 2 179 := ⟨at_177, rfl⟩
theorem f0_179 : Isn code 179 (.idiv) 1 180 := ⟨at_179, rfl⟩
theorem f0_180 : Isn code 180 (.istore 15) 2 182 := ⟨at_180, rfl⟩
theorem f0_182 : Isn code 182 (.aload 14) 2 184 := ⟨at_182, rfl⟩
theorem f0_184 : Isn code 184 (.arraylength) 1 185 := ⟨at_184, rfl⟩
theorem f0_185 : Isn code 185 (.iload 15) 2 187 := ⟨at_185, rfl⟩
theorem f0_187 : Brn code 187 (.if_icmp .eq 5) 5 190 192 := ⟨at_187, rfl, by decide, by decide⟩
theorem f0_190 : Isn code 190 (.iconst 0) 1 191 := ⟨at_190, rfl⟩
theorem f0_191 : Isn code 191 (.ireturn) 1 192 := ⟨at_191, rfl⟩
theorem f0_192 : Isn code 192 (.iload 15) 2 194 := ⟨at_192, rfl⟩
theorem f0_194 : Isn code 194 (.iconst 1) 1 195 := ⟨at_194, rfl⟩
theorem f0_195 : Brn code 195 (.if_icmp .lt 39) 39 198 234 := ⟨at_195, rfl, by decide, by decide⟩
theorem f0_198 : Isn code 198 (.iload 11) 2 200 := ⟨at_198, rfl⟩
theorem f0_200 : Isn code 200 (.bipush 8) 2 202 := ⟨at_200, rfl⟩
theorem f0_202 : Brn code 202 (.if_icmp .lt 7) 7 205 209 := ⟨at_202, rfl, by decide, by decide⟩
theorem f0_205 : Isn code 205 (.lload_n 0) 1 206 := ⟨at_205, rfl⟩
theorem f0_206 : Brn code 206 (.goto 14) 14 209 220 := ⟨at_206, rfl, by decide, by decide⟩
theorem f0_209 : Isn code 209 (.lload_n 0) 1 210 := ⟨at_209, rfl⟩
theorem f0_210 : Isn code 210 (.lconst 1) 1 211 := ⟨at_210, rfl⟩
theorem f0_211 : Isn code 211 (.bipush 8) 2 213 := ⟨at_211, rfl⟩
theorem f0_213 : Isn code 213 (.iload 11) 2 215 := ⟨at_213, rfl⟩
theorem f0_215 : Isn code 215 (.imul) 1 216 := ⟨at_215, rfl⟩
theorem f0_216 : Isn code 216 (.lshl) 1 217 := ⟨at_216, rfl⟩
theorem f0_217 : Isn code 217 (.lconst 1) 1 218 := ⟨at_217, rfl⟩
theorem f0_218 : Isn code 218 (.lsub) 1 219 := ⟨at_218, rfl⟩
theorem f0_219 : Isn code 219 (.land) 1 220 := ⟨at_219, rfl⟩
theorem f0_220 : Isn code 220 (.lstore 16) 2 222 := ⟨at_220, rfl⟩
theorem f0_222 : Isn code 222 (.aload 14) 2 224 := ⟨at_222, rfl⟩
theorem f0_224 : Isn code 224 (.iconst 0) 1 225 := ⟨at_224, rfl⟩
theorem f0_225 : Isn code 225 (.laload) 1 226 := ⟨at_225, rfl⟩
theorem f0_226 : Isn code 226 (.lload 16) 2 228 := ⟨at_226, rfl⟩
theorem f0_228 : Isn code 228 (.lcmp) 1 229 := ⟨at_228, rfl⟩
theorem f0_229 : Brn code 229 (.ifCond .eq 5) 5 232 234 := ⟨at_229, rfl, by decide, by decide⟩
theorem f0_232 : Isn code 232 (.iconst 0) 1 233 := ⟨at_232, rfl⟩
theorem f0_233 : Isn code 233 (.ireturn) 1 234 := ⟨at_233, rfl⟩
theorem f0_234 : Isn code 234 (.iload 15) 2 236 := ⟨at_234, rfl⟩
theorem f0_236 : Isn code 236 (.iconst 2) 1 237 := ⟨at_236, rfl⟩
theorem f0_237 : Brn code 237 (.if_icmp .lt 42) 42 240 279 := ⟨at_237, rfl, by decide, by decide⟩
theorem f0_240 : Isn code 240 (.iload 11) 2 242 := ⟨at_240, rfl⟩
theorem f0_242 : Isn code 242 (.bipush 16) 2 244 := ⟨at_242, rfl⟩
theorem f0_244 : Brn code 244 (.if_icmp .lt 7) 7 247 251 := ⟨at_244, rfl, by decide, by decide⟩
theorem f0_247 : Isn code 247 (.lload_n 2) 1 248 := ⟨at_247, rfl⟩
theorem f0_248 : Brn code 248 (.goto 17) 17 251 265 := ⟨at_248, rfl, by decide, by decide⟩
theorem f0_251 : Isn code 251 (.lload_n 2) 1 252 := ⟨at_251, rfl⟩
theorem f0_252 : Isn code 252 (.lconst 1) 1 253 := ⟨at_252, rfl⟩
theorem f0_253 : Isn code 253 (.bipush 8) 2 255 := ⟨at_253, rfl⟩
theorem f0_255 : Isn code 255 (.iload 11) 2 257 := ⟨at_255, rfl⟩
theorem f0_257 : Isn code 257 (.bipush 8) 2 259 := ⟨at_257, rfl⟩
theorem f0_259 : Isn code 259 (.isub) 1 260 := ⟨at_259, rfl⟩
theorem f0_260 : Isn code 260 (.imul) 1 261 := ⟨at_260, rfl⟩
theorem f0_261 : Isn code 261 (.lshl) 1 262 := ⟨at_261, rfl⟩
theorem f0_262 : Isn code 262 (.lconst 1) 1 263 := ⟨at_262, rfl⟩
theorem f0_263 : Isn code 263 (.lsub) 1 264 := ⟨at_263, rfl⟩
theorem f0_264 : Isn code 264 (.land) 1 265 := ⟨at_264, rfl⟩
theorem f0_265 : Isn code 265 (.lstore 16) 2 267 := ⟨at_265, rfl⟩
theorem f0_267 : Isn code 267 (.aload 14) 2 269 := ⟨at_267, rfl⟩
theorem f0_269 : Isn code 269 (.iconst 1) 1 270 := ⟨at_269, rfl⟩
theorem f0_270 : Isn code 270 (.laload) 1 271 := ⟨at_270, rfl⟩
theorem f0_271 : Isn code 271 (.lload 16) 2 273 := ⟨at_271, rfl⟩
theorem f0_273 : Isn code 273 (.lcmp) 1 274 := ⟨at_273, rfl⟩
theorem f0_274 : Brn code 274 (.ifCond .eq 5) 5 277 279 := ⟨at_274, rfl, by decide, by decide⟩
theorem f0_277 : Isn code 277 (.iconst 0) 1 278 := ⟨at_277, rfl⟩
theorem f0_278 : Isn code 278 (.ireturn) 1 279 := ⟨at_278, rfl⟩
theorem f0_279 : Isn code 279 (.iconst 1) 1 280 := ⟨at_279, rfl⟩
theorem f0_280 : Isn code 280 (.ireturn) 1 281 := ⟨at_280, rfl⟩
set_option maxRecDepth 65536 in
set_option maxHeartbeats 40000000 in
theorem rm1 (l : Launch) (Z : State) (a0 : Array Value) (hw : ∀ d ∈ tables_1, d.before a0 Z = true) (wa : Addr) (x0 : Int64) (h : Heap) (n0 : Nat) (hn0 : n0 ≤ h.size) (nw : Nat) (W : Nat → Int64) (ln : Int32) (hln : ((x0 + 7) / 8).toInt32 = ln) (hl0 : 0 ≤ ln.toInt) (hl1 : ln.toInt ≤ 16) (hl2 : ln.toInt ≤ 8 * nw) (Aw : LN Z h wa nw W) :
    Ctr l Z (⟨"com/example/nodewell/nodewell/store/BitCursor", "toBytes", "([JJ)[B"⟩ : MethodName) prog_43_method_8_code 5 (some (.array .byte)) ({ frames := 0, cells := 1, slots := 16, locals := 0 } : Room) [.ref wa, .long x0] h n0 (fun v h' => ∃ bb f, v = some (.ref bb) ∧ AN Z h' bb .byte ln.toNatClampNeg f ∧ n0 ≤ bb ∧ (∀ z, z < ln.toNatClampNeg → f z = own_by (W (z / 8)) (z % 8))) := by
  refine CtrW.intro (plainFor_of_name pn0) rfl #[.val (.ref wa), .val (.long x0), .second, .unset, .unset] rfl ?_
  intro K T hnm hl X
  subst hl
  have hln0 : ¬ ln < 0 := own_nn hl0
  have eN : ln.toInt = (ln.toNatClampNeg : Int) := by rw [own_nat]; omega
  have loop : ∀ (bb : Addr) (hbb : n0 ≤ bb) (nwb : wa ≠ bb) (n : Nat) (i : Nat) (iv : Int32) (f : Nat → Int32) (T : State) (h1 : Heap), St K Z "com/example/nodewell/nodewell/store/BitCursor" prog_43_method_8_code 5 (some (.array .byte)) ({ frames := 0, cells := 1, slots := 16, locals := 0 } : Room) n0 (0 + 1) (0 + 16) T h1 → LN Z h1 wa nw W → AN Z h1 bb .byte ln.toNatClampNeg f → i + n = ln.toNatClampNeg → iv.toInt = i → (∀ z, z < i → f z = own_by (W (z / 8)) (z % 8)) → Go K n0 1 16 (fun v h' => ∃ bb f, v = some (.ref bb) ∧ AN Z h' bb .byte ln.toNatClampNeg f ∧ n0 ≤ bb ∧ (∀ z, z < ln.toNatClampNeg → f z = own_by (W (z / 8)) (z % 8))) T 16 #[.val (.ref wa), .val (.long x0), .second, .val (.ref bb), .val (.int iv)] [] := by
    intro bb hbb nwb n
    induction n with
    | zero =>
      intro i iv f T h1 X Aw Ab hin hiv hf
      refine o_iload X f1_16 rfl ?_
      refine o_aload_n X f1_18 rfl rfl ?_
      refine o_alenN X ln f1_19 Ab (back32 hln0).1 ?_
      refine o_icmp_ge_t X f1_20 (by rw [Int32.lt_iff_toInt_lt]; omega) ?_
      refine o_aload_n X f1_51 rfl rfl ?_
      refine o_retA X rfl rfl rfl f1_52 (by decide) (by decide) ?_
      exact ⟨bb, f, rfl, Ab, hbb, fun z hz => hf z (by omega)⟩
    | succ n ih =>
      intro i iv f T h1 X Aw Ab hin hiv hf
      obtain ⟨x1, x2, x3, x4, x5⟩ := own_ix iv i hiv (by omega)
      refine o_iload X f1_16 rfl ?_
      refine o_aload_n X f1_18 rfl rfl ?_
      refine o_alenN X ln f1_19 Ab (back32 hln0).1 ?_
      refine o_icmp_ge_f X f1_20 (by rw [Int32.lt_iff_toInt_lt]; omega) ?_
      refine o_aload_n X f1_23 rfl rfl ?_
      refine o_iload X f1_24 rfl ?_
      refine o_aload_n X f1_26 rfl rfl ?_
      refine o_iload X f1_27 rfl ?_
      refine o_bipush 8 X f1_29 rfl ?_
      refine o_idiv X f1_31 (by decide) ?_
      refine o_laloadN X f1_32 Aw x3 (by rw [x1]; omega) ?_
      refine o_bipush 8 X f1_33 rfl ?_
      refine o_iload X f1_35 rfl ?_
      refine o_bipush 8 X f1_37 rfl ?_
      refine o_irem X f1_39 (by decide) ?_
      refine o_imul X f1_40 ?_
      refine o_lushr X f1_41 ?_
      refine o_l2i X f1_42 ?_
      refine o_i2b X f1_43 ?_
      refine o_st (st' := [.int (own_by (W (i / 8)) (i % 8)), .int iv, .ref bb]) (by rw [x1, x2]; rfl) ?_
      refine o_bastoreN X f1_44 Ab x4 (by rw [x5]; omega) hbb ?_
      intro T2 h2 X2 W2 AbG
      have AwF := Aw.other W2 nwb
      have AbF : AN Z h2 bb .byte ln.toNatClampNeg (fun q => if q = i then own_by (W (i / 8)) (i % 8) else f q) := by rw [x5, show nar .byte (own_by (W (i / 8)) (i % 8)) = own_by (W (i / 8)) (i % 8) from own_nar _] at AbG; exact AbG
      refine o_iinc 1 X2 f1_45 rfl rfl (Ls' := #[_, _, _, _, _]) rfl ?_
      refine o_goto X2 f1_48 ?_
      refine ih (i + 1) _ _ _ _ X2 AwF AbF (by omega) (by rw [own_inc iv (by omega) (by omega)]; omega) (fun z hz => ?_)
      show (if z = i then _ else f z) = _
      split
      · rename_i e; subst e; rfl
      · exact hf z (by omega)
  refine o_lload_n X f1_0 rfl ?_
  refine o_ldc2 X f1_1 (hw _ (List.mem_of_getElem? (i := 8) rfl)) ?_
  refine o_ladd X f1_4 ?_
  refine o_ldc2 X f1_5 (hw _ (List.mem_of_getElem? (i := 9) rfl)) ?_
  refine o_ldiv X f1_8 (by decide) ?_
  refine o_l2i X f1_9 ?_
  rw [hln]
  refine o_newarrayN X 16 ln.toNatClampNeg f1_10 (hw _ (List.mem_of_getElem? (i := 10) rfl)) hln0 rfl (by omega) rfl (by decide) ?_
  intro T1 h1 bb e1 X1 E1 A1
  have hbb : n0 ≤ bb := e1 ▸ hn0
  have nwb : wa ≠ bb := Nat.ne_of_lt (e1 ▸ Aw.lt)
  refine o_astore_n X1 f1_12 rfl (Ls' := #[_, _, _, _, _]) rfl ?_
  refine o_iconst 0 X1 f1_13 rfl ?_
  refine o_istore X1 f1_14 (Ls' := #[_, _, _, _, _]) rfl ?_
  exact loop bb hbb nwb ln.toNatClampNeg 0 _ _ _ _ X1 (Aw.ext E1) A1 (Nat.zero_add _) rfl (fun z hz => absurd hz (Nat.not_lt_zero _))
set_option maxRecDepth 65536 in
set_option maxHeartbeats 40000000 in
theorem rm2 (l : Launch) (Z : State) (a0 : Array Value) (hw : ∀ d ∈ tables_1, d.before a0 Z = true) (bb : Addr) (h : Heap) (n0 : Nat) (hn0 : n0 ≤ h.size) (ln : Int32) (f : Nat → Int32) (hl0 : 0 ≤ ln.toInt) (hl1 : ln.toInt ≤ 16) (Ab : AN Z h bb .byte ln.toNatClampNeg f) :
    Ctr l Z (⟨"com/example/nodewell/nodewell/store/BitCursor", "fromBytes", "([B)[J"⟩ : MethodName) prog_43_method_9_code 3 (some (.array .long)) ({ frames := 0, cells := 1, slots := 2, locals := 0 } : Room) [.ref bb] h n0 (fun v h' => ∃ rr g, v = some (.ref rr) ∧ LN Z h' rr ((ln + 7) / 8).toNatClampNeg g ∧ (∀ z, z < ((ln + 7) / 8).toNatClampNeg → g z = own_acc f ln.toNatClampNeg z)) := by
  refine CtrW.intro (plainFor_of_name pn0) rfl #[.val (.ref bb), .unset, .unset] rfl ?_
  intro K T hnm hl X
  subst hl
  have hln0 : ¬ ln < 0 := own_nn hl0
  have eN : ln.toInt = (ln.toNatClampNeg : Int) := by rw [own_nat]; omega
  have eR := own_rl ln hl0 hl1
  have eR2 : ((ln + 7) / 8).toNatClampNeg = (ln.toNatClampNeg + 7) / 8 := by rw [own_nat ((ln + 7) / 8)]; omega
  have loop : ∀ (rr : Addr) (hrr : n0 ≤ rr) (nbr : bb ≠ rr) (n : Nat) (i : Nat) (iv : Int32) (g : Nat → Int64) (T : State) (h1 : Heap), St K Z "com/example/nodewell/nodewell/store/BitCursor" prog_43_method_9_code 3 (some (.array .long)) ({ frames := 0, cells := 1, slots := 2, locals := 0 } : Room) n0 (0 + 1) (0 + 2) T h1 → AN Z h1 bb .byte ln.toNatClampNeg f → LN Z h1 rr ((ln + 7) / 8).toNatClampNeg g → i + n = ln.toNatClampNeg → iv.toInt = i → (∀ z, z < ((ln + 7) / 8).toNatClampNeg → g z = own_acc f i z) → Go K n0 1 2 (fun v h' => ∃ rr g, v = some (.ref rr) ∧ LN Z h' rr ((ln + 7) / 8).toNatClampNeg g ∧ (∀ z, z < ((ln + 7) / 8).toNatClampNeg → g z = own_acc f ln.toNatClampNeg z)) T 13 #[.val (.ref bb), .val (.ref rr), .val (.int iv)] [] := by
    intro rr hrr nbr n
    induction n with
    | zero =>
      intro i iv g T h1 X Ab Ar hin hiv hg
      refine o_iload_n X f2_13 rfl ?_
      refine o_aload_n X f2_14 rfl rfl ?_
      refine o_alenN X ln f2_15 Ab (back32 hln0).1 ?_
      refine o_icmp_ge_t X f2_16 (by rw [Int32.lt_iff_toInt_lt]; omega) ?_
      refine o_aload_n X f2_50 rfl rfl ?_
      refine o_retA X rfl rfl rfl f2_51 (by decide) (by decide) ?_
      exact ⟨rr, g, rfl, Ar, fun z hz => by rw [hg z hz, show i = ln.toNatClampNeg by omega]⟩
    | succ n ih =>
      intro i iv g T h1 X Ab Ar hin hiv hg
      obtain ⟨x1, x2, x3, x4, x5⟩ := own_ix iv i hiv (by omega)
      refine o_iload_n X f2_13 rfl ?_
      refine o_aload_n X f2_14 rfl rfl ?_
      refine o_alenN X ln f2_15 Ab (back32 hln0).1 ?_
      refine o_icmp_ge_f X f2_16 (by rw [Int32.lt_iff_toInt_lt]; omega) ?_
      refine o_aload_n X f2_19 rfl rfl ?_
      refine o_iload_n X f2_20 rfl ?_
      refine o_bipush 8 X f2_21 rfl ?_
      refine o_idiv X f2_23 (by decide) ?_
      refine o_dup2 X f2_24 rfl rfl ?_
      refine o_laloadN X f2_25 Ar x3 (by rw [x1]; omega) ?_
      refine o_aload_n X f2_26 rfl rfl ?_
      refine o_iload_n X f2_27 rfl ?_
      refine o_baloadN X f2_28 Ab x4 (by rw [x5]; omega) ?_
      refine o_i2l X f2_29 ?_
      refine o_ldc2 X f2_30 (hw _ (List.mem_of_getElem? (i := 14) rfl)) ?_
      refine o_land X f2_33 ?_
      refine o_bipush 8 X f2_34 rfl ?_
      refine o_iload_n X f2_36 rfl ?_
      refine o_bipush 8 X f2_37 rfl ?_
      refine o_irem X f2_39 (by decide) ?_
      refine o_imul X f2_40 ?_
      refine o_lshl X f2_41 ?_
      refine o_lor X f2_42 ?_
      refine o_lastoreN X f2_43 Ar x3 (by rw [x1]; omega) hrr ?_
      intro T2 h2 X2 W2 ArG
      have AbF := Ab.other W2 nbr
      have ArF : LN Z h2 rr ((ln + 7) / 8).toNatClampNeg (fun q => if q = i / 8 then g (i / 8) ||| (((f i).toInt64 &&& 255) <<< ((Int32.ofNat (8 * (i % 8))).toInt64 &&& 63)) else g q) := by rw [x1, x2, x5] at ArG; exact ArG
      refine o_iinc 1 X2 f2_44 rfl rfl (Ls' := #[_, _, _]) rfl ?_
      refine o_goto X2 f2_47 ?_
      refine ih (i + 1) _ _ _ _ X2 AbF ArF (by omega) (by rw [own_inc iv (by omega) (by omega)]; omega) (fun z hz => ?_)
      simp only [own_acc]
      split
      · rename_i e; rw [← e, hg z hz]
      · exact hg z hz
  refine o_aload_n X f2_0 rfl rfl ?_
  refine o_alenN X ln f2_1 Ab (back32 hln0).1 ?_
  refine o_bipush 7 X f2_2 rfl ?_
  refine o_iadd X f2_4 ?_
  refine o_bipush 8 X f2_5 rfl ?_
  refine o_idiv X f2_7 (by decide) ?_
  refine o_newarrayL X 2 ((ln + 7) / 8).toNatClampNeg f2_8 (hw _ (List.mem_of_getElem? (i := 1) rfl)) (own_nn (by omega)) rfl (by omega) (by decide) ?_
  intro T1 h1 rr e1 X1 E1 A1
  have hrr : n0 ≤ rr := e1 ▸ hn0
  have nbr : bb ≠ rr := Nat.ne_of_lt (e1 ▸ Ab.lt)
  refine o_astore_n X1 f2_10 rfl (Ls' := #[_, _, _]) rfl ?_
  refine o_iconst 0 X1 f2_11 rfl ?_
  refine o_istore_n X1 f2_12 (Ls' := #[_, _, _]) rfl ?_
  exact loop rr hrr nbr ln.toNatClampNeg 0 _ _ _ _ X1 (Ab.ext E1) A1 (Nat.zero_add _) rfl (fun z hz => rfl)
set_option maxRecDepth 65536 in
set_option maxHeartbeats 40000000 in
theorem rm0 (l : Launch) (Z : State) (a0 : Array Value) (hw : ∀ d ∈ tables_1, d.before a0 Z = true) (x0 : Int64) (x1 : Int64) (x2 : Int32) (x3 : Int32) (x4 : Int32) (h : Heap) (n0 : Nat) (hn0 : n0 ≤ h.size) :
    CtrW l Z x code 19 (some .boolean) tables_1 room_1 16 128 [.long x0, .long x1, .int x2, .int x3, .int x4] h n0 (fun v _ => v = some (.int 1)) := by
  refine CtrW.intro (plainFor_of_name pn1) rfl #[.val (.long x0), .second, .val (.long x1), .second, .val (.int x2), .val (.int x3), .val (.int x4), .unset, .unset, .unset, .unset, .unset, .unset, .unset, .unset, .unset, .unset, .unset, .unset] rfl ?_
  intro K T hnm hl X
  subst hl
  refine o_iload X f0_0 rfl ?_
  refine o_ldc X f0_2 (hw _ (List.mem_of_getElem? (i := 0) rfl)) ?_
  refine o_iand X f0_4 ?_
  refine o_iconst 3 X f0_5 rfl ?_
  refine o_irem X f0_6 (by decide) ?_
  refine o_gen fun n e_n => ?_
  have rn := own_rem x2 3 (by decide)
  rw [← e_n] at rn
  have hn : n = 0 ∨ n = 1 ∨ n = 2 := own_three rn.1 rn.2
  clear e_n rn
  refine o_istore X f0_7 (Ls' := #[_, _, _, _, _, _, _, _, _, _, _, _, _, _, _, _, _, _, _]) rfl ?_
  rcases hn with rfl | rfl | rfl
  · refine o_iload X f0_9 rfl ?_
    refine o_if_ne_f X f0_11 (rfl) ?_
    refine o_iconst 0 X f0_14 rfl ?_
    refine o_newarrayL X 0 0 f0_15 (hw _ (List.mem_of_getElem? (i := 1) rfl)) (by decide) (by decide) (by decide) (by decide) ?_
    intro T1 h1 wa e1 X1 E1 A1
    have ha : n0 ≤ wa := e1 ▸ hn0
    refine o_goto X1 f0_17 ?_
    obtain ⟨W, AW, hW0, hW1⟩ : ∃ W : Nat → Int64, LN Z _ wa 0 W ∧ (0 ≥ 1 → W 0 = x0) ∧ (0 ≥ 2 → W 1 = x1) := ⟨_, A1, fun q => by first | rfl | exact absurd q (by decide), fun q => by first | rfl | exact absurd q (by decide)⟩
    refine o_astore X1 f0_47 rfl (Ls' := #[_, _, _, _, _, _, _, _, _, _, _, _, _, _, _, _, _, _, _]) rfl ?_
    refine o_iload X1 f0_49 rfl ?_
    refine o_ldc X1 f0_51 (hw _ (List.mem_of_getElem? (i := 0) rfl)) ?_
    refine o_iand X1 f0_53 ?_
    refine o_bipush 64 X1 f0_54 rfl ?_
    refine o_iload X1 f0_56 rfl ?_
    refine o_imul X1 f0_58 ?_
    refine o_iconst 1 X1 f0_59 rfl ?_
    refine o_iadd X1 f0_60 ?_
    refine o_irem X1 f0_61 (by decide) ?_
    refine o_gen fun bi e_bi => ?_
    have rb := own_rem x3 (64 * 0 + 1) (by decide)
    rw [← e_bi] at rb
    have cb : (64 * 0 + 1 : Int32).toInt = 1 := by decide
    clear e_bi
    refine o_i2l X1 f0_62 ?_
    refine o_genL fun bits e_b => ?_
    have eb : bits.toInt = bi.toInt := by rw [e_b, c_i2l]
    have el := own_len bits (by omega) (by omega)
    clear e_b
    refine o_lstore X1 f0_63 (Ls' := #[_, _, _, _, _, _, _, _, _, _, _, _, _, _, _, _, _, _, _]) rfl ?_
    refine o_lload X1 f0_65 rfl ?_
    refine o_ldc2 X1 f0_67 (hw _ (List.mem_of_getElem? (i := 2) rfl)) ?_
    refine o_ladd X1 f0_70 ?_
    refine o_ldc2 X1 f0_71 (hw _ (List.mem_of_getElem? (i := 3) rfl)) ?_
    refine o_ldiv X1 f0_74 (by decide) ?_
    refine o_l2i X1 f0_75 ?_
    refine o_gen fun ln e_ln => ?_
    rw [← e_ln] at el
    have hl0 : 0 ≤ ln.toInt := by omega
    have hl1 : ln.toInt ≤ 16 := by omega
    have hl2 : ln.toInt ≤ 8 * (0 : Nat) := by omega
    have hln0 : ¬ ln < 0 := own_nn hl0
    have eN : ln.toInt = (ln.toNatClampNeg : Int) := by rw [own_nat]; omega
    have eR := own_rl ln hl0 hl1
    refine o_istore X1 f0_76 (Ls' := #[_, _, _, _, _, _, _, _, _, _, _, _, _, _, _, _, _, _, _]) rfl ?_
    refine o_aload X1 f0_78 rfl rfl ?_
    refine o_lload X1 f0_80 rfl ?_
    refine o_callS X1 6 f0_82 (hw _ (List.mem_of_getElem? (i := 4) rfl)) (hw _ (List.mem_of_getElem? (i := 5) rfl)) (hw _ (List.mem_of_getElem? (i := 6) rfl)) (hw _ (List.mem_of_getElem? (i := 7) rfl)) (by decide) (rm1 K.l Z a0 hw wa _ _ n0 (Nat.le_trans ha (Nat.le_of_lt AW.lt)) _ W ln e_ln.symm hl0 hl1 hl2 AW) (lenOf pd0 rfl) rfl rfl (by first | exact Nat.zero_le _ | simp [Value.category]) (by decide) ?_
    rintro T3 h3 v3 ⟨bb, f, rfl, Ab, hbb, hf⟩ X3
    refine o_v1 ?_
    refine o_astore X3 f0_85 rfl (Ls' := #[_, _, _, _, _, _, _, _, _, _, _, _, _, _, _, _, _, _, _]) rfl ?_
    refine o_aload X3 f0_87 rfl rfl ?_
    refine o_alenN X3 ln f0_89 Ab (back32 hln0).1 ?_
    refine o_iload X3 f0_90 rfl ?_
    refine o_icmp_eq_t X3 f0_92 (rfl) ?_
    refine o_iload X3 f0_97 rfl ?_
    refine o_ldc X3 f0_99 (hw _ (List.mem_of_getElem? (i := 0) rfl)) ?_
    refine o_iand X3 f0_101 ?_
    refine o_bipush 16 X3 f0_102 rfl ?_
    refine o_irem X3 f0_104 (by decide) ?_
    refine o_gen fun ii e_i => ?_
    have ri := own_rem x4 16 (by decide)
    rw [← e_i] at ri
    have c16 : (16 : Int32).toInt = 16 := by decide
    clear e_i
    refine o_istore X3 f0_105 (Ls' := #[_, _, _, _, _, _, _, _, _, _, _, _, _, _, _, _, _, _, _]) rfl ?_
    refine o_iload X3 f0_107 rfl ?_
    refine o_iload X3 f0_109 rfl ?_
    refine o_icmp_ge X3 f0_111 (fun q111 => ?_) (fun q111 => ?_)
    · refine o_aload X3 f0_165 rfl rfl ?_
      refine o_callS X3 6 f0_167 (hw _ (List.mem_of_getElem? (i := 11) rfl)) (hw _ (List.mem_of_getElem? (i := 12) rfl)) (hw _ (List.mem_of_getElem? (i := 6) rfl)) (hw _ (List.mem_of_getElem? (i := 13) rfl)) (by decide) (rm2 K.l Z a0 hw bb _ n0 (Nat.le_trans hbb (Nat.le_of_lt Ab.lt)) ln f hl0 hl1 Ab) (lenOf pd1 rfl) rfl rfl (by first | exact Nat.zero_le _ | simp [Value.category]) (by decide) ?_
      rintro T4 h4 v4 ⟨rr, g, rfl, Ar, hg⟩ X4
      refine o_v1 ?_
      refine o_astore X4 f0_170 rfl (Ls' := #[_, _, _, _, _, _, _, _, _, _, _, _, _, _, _, _, _, _, _]) rfl ?_
      refine o_iload X4 f0_172 rfl ?_
      refine o_bipush 7 X4 f0_174 rfl ?_
      refine o_iadd X4 f0_176 ?_
      refine o_bipush 8 X4 f0_177 rfl ?_
      refine o_idiv X4 f0_179 (by decide) ?_
      refine o_istore X4 f0_180 (Ls' := #[_, _, _, _, _, _, _, _, _, _, _, _, _, _, _, _, _, _, _]) rfl ?_
      refine o_aload X4 f0_182 rfl rfl ?_
      refine o_alenL X4 ((ln + 7) / 8) f0_184 Ar (back32 (own_nn (by omega))).1 ?_
      refine o_iload X4 f0_185 rfl ?_
      refine o_icmp_eq_t X4 f0_187 (rfl) ?_
      refine o_iload X4 f0_192 rfl ?_
      refine o_iconst 1 X4 f0_194 rfl ?_
      refine o_icmp_lt X4 f0_195 (fun q195 => ?_) (fun q195 => ?_)
      · refine o_iload X4 f0_234 rfl ?_
        refine o_iconst 2 X4 f0_236 rfl ?_
        refine o_icmp_lt X4 f0_237 (fun q237 => ?_) (fun q237 => ?_)
        · refine o_iconst 1 X4 f0_279 rfl ?_
          refine o_retZ X4 f0_280 (by decide) (by decide) ?_
          rfl
        · refine o_iload X4 f0_240 rfl ?_
          refine o_bipush 16 X4 f0_242 rfl ?_
          refine o_cutI2L 265 (if ln < 16 then x1 &&& ((1 : Int64) <<< ((8 * (ln - 8)).toInt64 &&& 63) - 1) else x1) (fun J => ?_) ?_
          · refine o_icmp_lt X4 f0_244 (fun q244 => ?_) (fun q244 => ?_)
            · refine o_lload_n X4 f0_251 rfl ?_
              refine o_lconst 1 X4 f0_252 rfl ?_
              refine o_bipush 8 X4 f0_253 rfl ?_
              refine o_iload X4 f0_255 rfl ?_
              refine o_bipush 8 X4 f0_257 rfl ?_
              refine o_isub X4 f0_259 ?_
              refine o_imul X4 f0_260 ?_
              refine o_lshl X4 f0_261 ?_
              refine o_lconst 1 X4 f0_262 rfl ?_
              refine o_lsub X4 f0_263 ?_
              refine o_land X4 f0_264 ?_
              simpa only [q244, ↓reduceIte, if_true, if_false] using J
            · refine o_lload_n X4 f0_247 rfl ?_
              refine o_goto X4 f0_248 ?_
              simpa only [q244, ↓reduceIte, if_true, if_false] using J
          refine o_lstore X4 f0_265 (Ls' := #[_, _, _, _, _, _, _, _, _, _, _, _, _, _, _, _, _, _, _]) rfl ?_
          refine o_aload X4 f0_267 rfl rfl ?_
          refine o_iconst 1 X4 f0_269 rfl ?_
          have q237z := q237
          rw [Int32.lt_iff_toInt_lt, own_two] at q237z
          have hR1 : 1 < ((ln + 7) / 8).toNatClampNeg := by rw [own_nat ((ln + 7) / 8)]; omega
          refine o_laloadN X4 f0_270 Ar (by decide) hR1 ?_
          refine o_lload X4 f0_271 rfl ?_
          refine o_lcmp X4 f0_273 ?_
          refine o_lif_eq_t X4 f0_274 (by rw [show Int32.toNatClampNeg 1 = 1 from rfl, hg 1 hR1, own_e1 f W ln _ eN (by omega) (by omega) hf, hW1 (by omega)]) ?_
          refine o_iconst 1 X4 f0_279 rfl ?_
          refine o_retZ X4 f0_280 (by decide) (by decide) ?_
          rfl
      · refine o_iload X4 f0_198 rfl ?_
        refine o_bipush 8 X4 f0_200 rfl ?_
        refine o_cutI2L 220 (if ln < 8 then x0 &&& ((1 : Int64) <<< ((8 * ln).toInt64 &&& 63) - 1) else x0) (fun J => ?_) ?_
        · refine o_icmp_lt X4 f0_202 (fun q202 => ?_) (fun q202 => ?_)
          · refine o_lload_n X4 f0_209 rfl ?_
            refine o_lconst 1 X4 f0_210 rfl ?_
            refine o_bipush 8 X4 f0_211 rfl ?_
            refine o_iload X4 f0_213 rfl ?_
            refine o_imul X4 f0_215 ?_
            refine o_lshl X4 f0_216 ?_
            refine o_lconst 1 X4 f0_217 rfl ?_
            refine o_lsub X4 f0_218 ?_
            refine o_land X4 f0_219 ?_
            simpa only [q202, ↓reduceIte, if_true, if_false] using J
          · refine o_lload_n X4 f0_205 rfl ?_
            refine o_goto X4 f0_206 ?_
            simpa only [q202, ↓reduceIte, if_true, if_false] using J
        refine o_lstore X4 f0_220 (Ls' := #[_, _, _, _, _, _, _, _, _, _, _, _, _, _, _, _, _, _, _]) rfl ?_
        refine o_aload X4 f0_222 rfl rfl ?_
        refine o_iconst 0 X4 f0_224 rfl ?_
        have q195z := q195
        rw [Int32.lt_iff_toInt_lt, own_one] at q195z
        have hR0 : 0 < ((ln + 7) / 8).toNatClampNeg := by rw [own_nat ((ln + 7) / 8)]; omega
        refine o_laloadN X4 f0_225 Ar (by decide) hR0 ?_
        refine o_lload X4 f0_226 rfl ?_
        refine o_lcmp X4 f0_228 ?_
        refine o_lif_eq_t X4 f0_229 (by rw [show Int32.toNatClampNeg 0 = 0 from rfl, hg 0 hR0, own_e0 f W ln _ eN (by omega) hf, hW0 (by omega)]) ?_
        refine o_iload X4 f0_234 rfl ?_
        refine o_iconst 2 X4 f0_236 rfl ?_
        refine o_icmp_lt X4 f0_237 (fun q237 => ?_) (fun q237 => ?_)
        · refine o_iconst 1 X4 f0_279 rfl ?_
          refine o_retZ X4 f0_280 (by decide) (by decide) ?_
          rfl
        · refine o_iload X4 f0_240 rfl ?_
          refine o_bipush 16 X4 f0_242 rfl ?_
          refine o_cutI2L 265 (if ln < 16 then x1 &&& ((1 : Int64) <<< ((8 * (ln - 8)).toInt64 &&& 63) - 1) else x1) (fun J => ?_) ?_
          · refine o_icmp_lt X4 f0_244 (fun q244 => ?_) (fun q244 => ?_)
            · refine o_lload_n X4 f0_251 rfl ?_
              refine o_lconst 1 X4 f0_252 rfl ?_
              refine o_bipush 8 X4 f0_253 rfl ?_
              refine o_iload X4 f0_255 rfl ?_
              refine o_bipush 8 X4 f0_257 rfl ?_
              refine o_isub X4 f0_259 ?_
              refine o_imul X4 f0_260 ?_
              refine o_lshl X4 f0_261 ?_
              refine o_lconst 1 X4 f0_262 rfl ?_
              refine o_lsub X4 f0_263 ?_
              refine o_land X4 f0_264 ?_
              simpa only [q244, ↓reduceIte, if_true, if_false] using J
            · refine o_lload_n X4 f0_247 rfl ?_
              refine o_goto X4 f0_248 ?_
              simpa only [q244, ↓reduceIte, if_true, if_false] using J
          refine o_lstore X4 f0_265 (Ls' := #[_, _, _, _, _, _, _, _, _, _, _, _, _, _, _, _, _, _, _]) rfl ?_
          refine o_aload X4 f0_267 rfl rfl ?_
          refine o_iconst 1 X4 f0_269 rfl ?_
          have q237z := q237
          rw [Int32.lt_iff_toInt_lt, own_two] at q237z
          have hR1 : 1 < ((ln + 7) / 8).toNatClampNeg := by rw [own_nat ((ln + 7) / 8)]; omega
          refine o_laloadN X4 f0_270 Ar (by decide) hR1 ?_
          refine o_lload X4 f0_271 rfl ?_
          refine o_lcmp X4 f0_273 ?_
          refine o_lif_eq_t X4 f0_274 (by rw [show Int32.toNatClampNeg 1 = 1 from rfl, hg 1 hR1, own_e1 f W ln _ eN (by omega) (by omega) hf, hW1 (by omega)]) ?_
          refine o_iconst 1 X4 f0_279 rfl ?_
          refine o_retZ X4 f0_280 (by decide) (by decide) ?_
          rfl
    · refine o_iload X3 f0_114 rfl ?_
      refine o_bipush 8 X3 f0_116 rfl ?_
      have q111z := q111
      rw [Int32.lt_iff_toInt_lt] at q111z
      refine o_cutI2L 126 (W (ii.toNatClampNeg / 8)) (fun J => ?_) ?_
      · refine o_icmp_ge X3 f0_118 (fun q118 => ?_) (fun q118 => ?_)
        · rw [Int32.lt_iff_toInt_lt, own_8] at q118
          refine o_lload_n X3 f0_125 rfl ?_
          rw [show ii.toNatClampNeg / 8 = 1 by rw [own_nat]; omega, hW1 (by omega)] at J; exact J
        · rw [Int32.lt_iff_toInt_lt, own_8] at q118
          refine o_lload_n X3 f0_121 rfl ?_
          refine o_goto X3 f0_122 ?_
          rw [show ii.toNatClampNeg / 8 = 0 by rw [own_nat]; omega, hW0 (by omega)] at J; exact J
      refine o_lstore X3 f0_126 (Ls' := #[_, _, _, _, _, _, _, _, _, _, _, _, _, _, _, _, _, _, _]) rfl ?_
      refine o_iload X3 f0_128 rfl ?_
      refine o_bipush 8 X3 f0_130 rfl ?_
      refine o_irem X3 f0_132 (by decide) ?_
      refine o_istore X3 f0_133 (Ls' := #[_, _, _, _, _, _, _, _, _, _, _, _, _, _, _, _, _, _, _]) rfl ?_
      refine o_lload X3 f0_135 rfl ?_
      refine o_bipush 56 X3 f0_137 rfl ?_
      refine o_bipush 8 X3 f0_139 rfl ?_
      refine o_iload X3 f0_141 rfl ?_
      refine o_imul X3 f0_143 ?_
      refine o_isub X3 f0_144 ?_
      refine o_lshl X3 f0_145 ?_
      refine o_bipush 56 X3 f0_146 rfl ?_
      refine o_lshr X3 f0_148 ?_
      refine o_lstore X3 f0_149 (Ls' := #[_, _, _, _, _, _, _, _, _, _, _, _, _, _, _, _, _, _, _]) rfl ?_
      refine o_aload X3 f0_151 rfl rfl ?_
      refine o_iload X3 f0_153 rfl ?_
      refine o_baloadN X3 f0_155 Ab (own_nn ri.1) (by rw [own_nat ii]; omega) ?_
      rw [hf ii.toNatClampNeg (by rw [own_nat ii]; omega)]
      refine o_i2l X3 f0_156 ?_
      refine o_lload X3 f0_157 rfl ?_
      refine o_lcmp X3 f0_159 ?_
      refine o_lif_eq_t X3 f0_160 (own_byL _ _ _ (by have := (c_irem ii 8 8 own_8).1 ri.1; rw [this, own_nat]; omega) (Nat.mod_lt _ (by decide))) ?_
      refine o_aload X3 f0_165 rfl rfl ?_
      refine o_callS X3 6 f0_167 (hw _ (List.mem_of_getElem? (i := 11) rfl)) (hw _ (List.mem_of_getElem? (i := 12) rfl)) (hw _ (List.mem_of_getElem? (i := 6) rfl)) (hw _ (List.mem_of_getElem? (i := 13) rfl)) (by decide) (rm2 K.l Z a0 hw bb _ n0 (Nat.le_trans hbb (Nat.le_of_lt Ab.lt)) ln f hl0 hl1 Ab) (lenOf pd1 rfl) rfl rfl (by first | exact Nat.zero_le _ | simp [Value.category]) (by decide) ?_
      rintro T5 h5 v5 ⟨rr, g, rfl, Ar, hg⟩ X5
      refine o_v1 ?_
      refine o_astore X5 f0_170 rfl (Ls' := #[_, _, _, _, _, _, _, _, _, _, _, _, _, _, _, _, _, _, _]) rfl ?_
      refine o_iload X5 f0_172 rfl ?_
      refine o_bipush 7 X5 f0_174 rfl ?_
      refine o_iadd X5 f0_176 ?_
      refine o_bipush 8 X5 f0_177 rfl ?_
      refine o_idiv X5 f0_179 (by decide) ?_
      refine o_istore X5 f0_180 (Ls' := #[_, _, _, _, _, _, _, _, _, _, _, _, _, _, _, _, _, _, _]) rfl ?_
      refine o_aload X5 f0_182 rfl rfl ?_
      refine o_alenL X5 ((ln + 7) / 8) f0_184 Ar (back32 (own_nn (by omega))).1 ?_
      refine o_iload X5 f0_185 rfl ?_
      refine o_icmp_eq_t X5 f0_187 (rfl) ?_
      refine o_iload X5 f0_192 rfl ?_
      refine o_iconst 1 X5 f0_194 rfl ?_
      refine o_icmp_lt X5 f0_195 (fun q195 => ?_) (fun q195 => ?_)
      · refine o_iload X5 f0_234 rfl ?_
        refine o_iconst 2 X5 f0_236 rfl ?_
        refine o_icmp_lt X5 f0_237 (fun q237 => ?_) (fun q237 => ?_)
        · refine o_iconst 1 X5 f0_279 rfl ?_
          refine o_retZ X5 f0_280 (by decide) (by decide) ?_
          rfl
        · refine o_iload X5 f0_240 rfl ?_
          refine o_bipush 16 X5 f0_242 rfl ?_
          refine o_cutI2L 265 (if ln < 16 then x1 &&& ((1 : Int64) <<< ((8 * (ln - 8)).toInt64 &&& 63) - 1) else x1) (fun J => ?_) ?_
          · refine o_icmp_lt X5 f0_244 (fun q244 => ?_) (fun q244 => ?_)
            · refine o_lload_n X5 f0_251 rfl ?_
              refine o_lconst 1 X5 f0_252 rfl ?_
              refine o_bipush 8 X5 f0_253 rfl ?_
              refine o_iload X5 f0_255 rfl ?_
              refine o_bipush 8 X5 f0_257 rfl ?_
              refine o_isub X5 f0_259 ?_
              refine o_imul X5 f0_260 ?_
              refine o_lshl X5 f0_261 ?_
              refine o_lconst 1 X5 f0_262 rfl ?_
              refine o_lsub X5 f0_263 ?_
              refine o_land X5 f0_264 ?_
              simpa only [q244, ↓reduceIte, if_true, if_false] using J
            · refine o_lload_n X5 f0_247 rfl ?_
              refine o_goto X5 f0_248 ?_
              simpa only [q244, ↓reduceIte, if_true, if_false] using J
          refine o_lstore X5 f0_265 (Ls' := #[_, _, _, _, _, _, _, _, _, _, _, _, _, _, _, _, _, _, _]) rfl ?_
          refine o_aload X5 f0_267 rfl rfl ?_
          refine o_iconst 1 X5 f0_269 rfl ?_
          have q237z := q237
          rw [Int32.lt_iff_toInt_lt, own_two] at q237z
          have hR1 : 1 < ((ln + 7) / 8).toNatClampNeg := by rw [own_nat ((ln + 7) / 8)]; omega
          refine o_laloadN X5 f0_270 Ar (by decide) hR1 ?_
          refine o_lload X5 f0_271 rfl ?_
          refine o_lcmp X5 f0_273 ?_
          refine o_lif_eq_t X5 f0_274 (by rw [show Int32.toNatClampNeg 1 = 1 from rfl, hg 1 hR1, own_e1 f W ln _ eN (by omega) (by omega) hf, hW1 (by omega)]) ?_
          refine o_iconst 1 X5 f0_279 rfl ?_
          refine o_retZ X5 f0_280 (by decide) (by decide) ?_
          rfl
      · refine o_iload X5 f0_198 rfl ?_
        refine o_bipush 8 X5 f0_200 rfl ?_
        refine o_cutI2L 220 (if ln < 8 then x0 &&& ((1 : Int64) <<< ((8 * ln).toInt64 &&& 63) - 1) else x0) (fun J => ?_) ?_
        · refine o_icmp_lt X5 f0_202 (fun q202 => ?_) (fun q202 => ?_)
          · refine o_lload_n X5 f0_209 rfl ?_
            refine o_lconst 1 X5 f0_210 rfl ?_
            refine o_bipush 8 X5 f0_211 rfl ?_
            refine o_iload X5 f0_213 rfl ?_
            refine o_imul X5 f0_215 ?_
            refine o_lshl X5 f0_216 ?_
            refine o_lconst 1 X5 f0_217 rfl ?_
            refine o_lsub X5 f0_218 ?_
            refine o_land X5 f0_219 ?_
            simpa only [q202, ↓reduceIte, if_true, if_false] using J
          · refine o_lload_n X5 f0_205 rfl ?_
            refine o_goto X5 f0_206 ?_
            simpa only [q202, ↓reduceIte, if_true, if_false] using J
        refine o_lstore X5 f0_220 (Ls' := #[_, _, _, _, _, _, _, _, _, _, _, _, _, _, _, _, _, _, _]) rfl ?_
        refine o_aload X5 f0_222 rfl rfl ?_
        refine o_iconst 0 X5 f0_224 rfl ?_
        have q195z := q195
        rw [Int32.lt_iff_toInt_lt, own_one] at q195z
        have hR0 : 0 < ((ln + 7) / 8).toNatClampNeg := by rw [own_nat ((ln + 7) / 8)]; omega
        refine o_laloadN X5 f0_225 Ar (by decide) hR0 ?_
        refine o_lload X5 f0_226 rfl ?_
        refine o_lcmp X5 f0_228 ?_
        refine o_lif_eq_t X5 f0_229 (by rw [show Int32.toNatClampNeg 0 = 0 from rfl, hg 0 hR0, own_e0 f W ln _ eN (by omega) hf, hW0 (by omega)]) ?_
        refine o_iload X5 f0_234 rfl ?_
        refine o_iconst 2 X5 f0_236 rfl ?_
        refine o_icmp_lt X5 f0_237 (fun q237 => ?_) (fun q237 => ?_)
        · refine o_iconst 1 X5 f0_279 rfl ?_
          refine o_retZ X5 f0_280 (by decide) (by decide) ?_
          rfl
        · refine o_iload X5 f0_240 rfl ?_
          refine o_bipush 16 X5 f0_242 rfl ?_
          refine o_cutI2L 265 (if ln < 16 then x1 &&& ((1 : Int64) <<< ((8 * (ln - 8)).toInt64 &&& 63) - 1) else x1) (fun J => ?_) ?_
          · refine o_icmp_lt X5 f0_244 (fun q244 => ?_) (fun q244 => ?_)
            · refine o_lload_n X5 f0_251 rfl ?_
              refine o_lconst 1 X5 f0_252 rfl ?_
              refine o_bipush 8 X5 f0_253 rfl ?_
              refine o_iload X5 f0_255 rfl ?_
              refine o_bipush 8 X5 f0_257 rfl ?_
              refine o_isub X5 f0_259 ?_
              refine o_imul X5 f0_260 ?_
              refine o_lshl X5 f0_261 ?_
              refine o_lconst 1 X5 f0_262 rfl ?_
              refine o_lsub X5 f0_263 ?_
              refine o_land X5 f0_264 ?_
              simpa only [q244, ↓reduceIte, if_true, if_false] using J
            · refine o_lload_n X5 f0_247 rfl ?_
              refine o_goto X5 f0_248 ?_
              simpa only [q244, ↓reduceIte, if_true, if_false] using J
          refine o_lstore X5 f0_265 (Ls' := #[_, _, _, _, _, _, _, _, _, _, _, _, _, _, _, _, _, _, _]) rfl ?_
          refine o_aload X5 f0_267 rfl rfl ?_
          refine o_iconst 1 X5 f0_269 rfl ?_
          have q237z := q237
          rw [Int32.lt_iff_toInt_lt, own_two] at q237z
          have hR1 : 1 < ((ln + 7) / 8).toNatClampNeg := by rw [own_nat ((ln + 7) / 8)]; omega
          refine o_laloadN X5 f0_270 Ar (by decide) hR1 ?_
          refine o_lload X5 f0_271 rfl ?_
          refine o_lcmp X5 f0_273 ?_
          refine o_lif_eq_t X5 f0_274 (by rw [show Int32.toNatClampNeg 1 = 1 from rfl, hg 1 hR1, own_e1 f W ln _ eN (by omega) (by omega) hf, hW1 (by omega)]) ?_
          refine o_iconst 1 X5 f0_279 rfl ?_
          refine o_retZ X5 f0_280 (by decide) (by decide) ?_
          rfl
  · refine o_iload X f0_9 rfl ?_
    refine o_if_ne_t X f0_11 (by decide) ?_
    refine o_iload X f0_20 rfl ?_
    refine o_iconst 1 X f0_22 rfl ?_
    refine o_icmp_ne_f X f0_23 (rfl) ?_
    refine o_iconst 1 X f0_26 rfl ?_
    refine o_newarrayL X 1 1 f0_27 (hw _ (List.mem_of_getElem? (i := 1) rfl)) (by decide) (by decide) (by decide) (by decide) ?_
    intro T1 h1 wa e1 X1 E1 A1
    have ha : n0 ≤ wa := e1 ▸ hn0
    refine o_dup X1 f0_29 rfl ?_
    refine o_iconst 0 X1 f0_30 rfl ?_
    refine o_lload_n X1 f0_31 rfl ?_
    refine o_lastoreN X1 f0_32 A1 (by decide) (by decide) ha ?_
    intro T2 h2 X2 W2 A2
    refine o_goto X2 f0_33 ?_
    obtain ⟨W, AW, hW0, hW1⟩ : ∃ W : Nat → Int64, LN Z _ wa 1 W ∧ (1 ≥ 1 → W 0 = x0) ∧ (1 ≥ 2 → W 1 = x1) := ⟨_, A2, fun q => by first | rfl | exact absurd q (by decide), fun q => by first | rfl | exact absurd q (by decide)⟩
    refine o_astore X2 f0_47 rfl (Ls' := #[_, _, _, _, _, _, _, _, _, _, _, _, _, _, _, _, _, _, _]) rfl ?_
    refine o_iload X2 f0_49 rfl ?_
    refine o_ldc X2 f0_51 (hw _ (List.mem_of_getElem? (i := 0) rfl)) ?_
    refine o_iand X2 f0_53 ?_
    refine o_bipush 64 X2 f0_54 rfl ?_
    refine o_iload X2 f0_56 rfl ?_
    refine o_imul X2 f0_58 ?_
    refine o_iconst 1 X2 f0_59 rfl ?_
    refine o_iadd X2 f0_60 ?_
    refine o_irem X2 f0_61 (by decide) ?_
    refine o_gen fun bi e_bi => ?_
    have rb := own_rem x3 (64 * 1 + 1) (by decide)
    rw [← e_bi] at rb
    have cb : (64 * 1 + 1 : Int32).toInt = 65 := by decide
    clear e_bi
    refine o_i2l X2 f0_62 ?_
    refine o_genL fun bits e_b => ?_
    have eb : bits.toInt = bi.toInt := by rw [e_b, c_i2l]
    have el := own_len bits (by omega) (by omega)
    clear e_b
    refine o_lstore X2 f0_63 (Ls' := #[_, _, _, _, _, _, _, _, _, _, _, _, _, _, _, _, _, _, _]) rfl ?_
    refine o_lload X2 f0_65 rfl ?_
    refine o_ldc2 X2 f0_67 (hw _ (List.mem_of_getElem? (i := 2) rfl)) ?_
    refine o_ladd X2 f0_70 ?_
    refine o_ldc2 X2 f0_71 (hw _ (List.mem_of_getElem? (i := 3) rfl)) ?_
    refine o_ldiv X2 f0_74 (by decide) ?_
    refine o_l2i X2 f0_75 ?_
    refine o_gen fun ln e_ln => ?_
    rw [← e_ln] at el
    have hl0 : 0 ≤ ln.toInt := by omega
    have hl1 : ln.toInt ≤ 16 := by omega
    have hl2 : ln.toInt ≤ 8 * (1 : Nat) := by omega
    have hln0 : ¬ ln < 0 := own_nn hl0
    have eN : ln.toInt = (ln.toNatClampNeg : Int) := by rw [own_nat]; omega
    have eR := own_rl ln hl0 hl1
    refine o_istore X2 f0_76 (Ls' := #[_, _, _, _, _, _, _, _, _, _, _, _, _, _, _, _, _, _, _]) rfl ?_
    refine o_aload X2 f0_78 rfl rfl ?_
    refine o_lload X2 f0_80 rfl ?_
    refine o_callS X2 6 f0_82 (hw _ (List.mem_of_getElem? (i := 4) rfl)) (hw _ (List.mem_of_getElem? (i := 5) rfl)) (hw _ (List.mem_of_getElem? (i := 6) rfl)) (hw _ (List.mem_of_getElem? (i := 7) rfl)) (by decide) (rm1 K.l Z a0 hw wa _ _ n0 (Nat.le_trans ha (Nat.le_of_lt AW.lt)) _ W ln e_ln.symm hl0 hl1 hl2 AW) (lenOf pd0 rfl) rfl rfl (by first | exact Nat.zero_le _ | simp [Value.category]) (by decide) ?_
    rintro T4 h4 v4 ⟨bb, f, rfl, Ab, hbb, hf⟩ X4
    refine o_v1 ?_
    refine o_astore X4 f0_85 rfl (Ls' := #[_, _, _, _, _, _, _, _, _, _, _, _, _, _, _, _, _, _, _]) rfl ?_
    refine o_aload X4 f0_87 rfl rfl ?_
    refine o_alenN X4 ln f0_89 Ab (back32 hln0).1 ?_
    refine o_iload X4 f0_90 rfl ?_
    refine o_icmp_eq_t X4 f0_92 (rfl) ?_
    refine o_iload X4 f0_97 rfl ?_
    refine o_ldc X4 f0_99 (hw _ (List.mem_of_getElem? (i := 0) rfl)) ?_
    refine o_iand X4 f0_101 ?_
    refine o_bipush 16 X4 f0_102 rfl ?_
    refine o_irem X4 f0_104 (by decide) ?_
    refine o_gen fun ii e_i => ?_
    have ri := own_rem x4 16 (by decide)
    rw [← e_i] at ri
    have c16 : (16 : Int32).toInt = 16 := by decide
    clear e_i
    refine o_istore X4 f0_105 (Ls' := #[_, _, _, _, _, _, _, _, _, _, _, _, _, _, _, _, _, _, _]) rfl ?_
    refine o_iload X4 f0_107 rfl ?_
    refine o_iload X4 f0_109 rfl ?_
    refine o_icmp_ge X4 f0_111 (fun q111 => ?_) (fun q111 => ?_)
    · refine o_aload X4 f0_165 rfl rfl ?_
      refine o_callS X4 6 f0_167 (hw _ (List.mem_of_getElem? (i := 11) rfl)) (hw _ (List.mem_of_getElem? (i := 12) rfl)) (hw _ (List.mem_of_getElem? (i := 6) rfl)) (hw _ (List.mem_of_getElem? (i := 13) rfl)) (by decide) (rm2 K.l Z a0 hw bb _ n0 (Nat.le_trans hbb (Nat.le_of_lt Ab.lt)) ln f hl0 hl1 Ab) (lenOf pd1 rfl) rfl rfl (by first | exact Nat.zero_le _ | simp [Value.category]) (by decide) ?_
      rintro T5 h5 v5 ⟨rr, g, rfl, Ar, hg⟩ X5
      refine o_v1 ?_
      refine o_astore X5 f0_170 rfl (Ls' := #[_, _, _, _, _, _, _, _, _, _, _, _, _, _, _, _, _, _, _]) rfl ?_
      refine o_iload X5 f0_172 rfl ?_
      refine o_bipush 7 X5 f0_174 rfl ?_
      refine o_iadd X5 f0_176 ?_
      refine o_bipush 8 X5 f0_177 rfl ?_
      refine o_idiv X5 f0_179 (by decide) ?_
      refine o_istore X5 f0_180 (Ls' := #[_, _, _, _, _, _, _, _, _, _, _, _, _, _, _, _, _, _, _]) rfl ?_
      refine o_aload X5 f0_182 rfl rfl ?_
      refine o_alenL X5 ((ln + 7) / 8) f0_184 Ar (back32 (own_nn (by omega))).1 ?_
      refine o_iload X5 f0_185 rfl ?_
      refine o_icmp_eq_t X5 f0_187 (rfl) ?_
      refine o_iload X5 f0_192 rfl ?_
      refine o_iconst 1 X5 f0_194 rfl ?_
      refine o_icmp_lt X5 f0_195 (fun q195 => ?_) (fun q195 => ?_)
      · refine o_iload X5 f0_234 rfl ?_
        refine o_iconst 2 X5 f0_236 rfl ?_
        refine o_icmp_lt X5 f0_237 (fun q237 => ?_) (fun q237 => ?_)
        · refine o_iconst 1 X5 f0_279 rfl ?_
          refine o_retZ X5 f0_280 (by decide) (by decide) ?_
          rfl
        · refine o_iload X5 f0_240 rfl ?_
          refine o_bipush 16 X5 f0_242 rfl ?_
          refine o_cutI2L 265 (if ln < 16 then x1 &&& ((1 : Int64) <<< ((8 * (ln - 8)).toInt64 &&& 63) - 1) else x1) (fun J => ?_) ?_
          · refine o_icmp_lt X5 f0_244 (fun q244 => ?_) (fun q244 => ?_)
            · refine o_lload_n X5 f0_251 rfl ?_
              refine o_lconst 1 X5 f0_252 rfl ?_
              refine o_bipush 8 X5 f0_253 rfl ?_
              refine o_iload X5 f0_255 rfl ?_
              refine o_bipush 8 X5 f0_257 rfl ?_
              refine o_isub X5 f0_259 ?_
              refine o_imul X5 f0_260 ?_
              refine o_lshl X5 f0_261 ?_
              refine o_lconst 1 X5 f0_262 rfl ?_
              refine o_lsub X5 f0_263 ?_
              refine o_land X5 f0_264 ?_
              simpa only [q244, ↓reduceIte, if_true, if_false] using J
            · refine o_lload_n X5 f0_247 rfl ?_
              refine o_goto X5 f0_248 ?_
              simpa only [q244, ↓reduceIte, if_true, if_false] using J
          refine o_lstore X5 f0_265 (Ls' := #[_, _, _, _, _, _, _, _, _, _, _, _, _, _, _, _, _, _, _]) rfl ?_
          refine o_aload X5 f0_267 rfl rfl ?_
          refine o_iconst 1 X5 f0_269 rfl ?_
          have q237z := q237
          rw [Int32.lt_iff_toInt_lt, own_two] at q237z
          have hR1 : 1 < ((ln + 7) / 8).toNatClampNeg := by rw [own_nat ((ln + 7) / 8)]; omega
          refine o_laloadN X5 f0_270 Ar (by decide) hR1 ?_
          refine o_lload X5 f0_271 rfl ?_
          refine o_lcmp X5 f0_273 ?_
          refine o_lif_eq_t X5 f0_274 (by rw [show Int32.toNatClampNeg 1 = 1 from rfl, hg 1 hR1, own_e1 f W ln _ eN (by omega) (by omega) hf, hW1 (by omega)]) ?_
          refine o_iconst 1 X5 f0_279 rfl ?_
          refine o_retZ X5 f0_280 (by decide) (by decide) ?_
          rfl
      · refine o_iload X5 f0_198 rfl ?_
        refine o_bipush 8 X5 f0_200 rfl ?_
        refine o_cutI2L 220 (if ln < 8 then x0 &&& ((1 : Int64) <<< ((8 * ln).toInt64 &&& 63) - 1) else x0) (fun J => ?_) ?_
        · refine o_icmp_lt X5 f0_202 (fun q202 => ?_) (fun q202 => ?_)
          · refine o_lload_n X5 f0_209 rfl ?_
            refine o_lconst 1 X5 f0_210 rfl ?_
            refine o_bipush 8 X5 f0_211 rfl ?_
            refine o_iload X5 f0_213 rfl ?_
            refine o_imul X5 f0_215 ?_
            refine o_lshl X5 f0_216 ?_
            refine o_lconst 1 X5 f0_217 rfl ?_
            refine o_lsub X5 f0_218 ?_
            refine o_land X5 f0_219 ?_
            simpa only [q202, ↓reduceIte, if_true, if_false] using J
          · refine o_lload_n X5 f0_205 rfl ?_
            refine o_goto X5 f0_206 ?_
            simpa only [q202, ↓reduceIte, if_true, if_false] using J
        refine o_lstore X5 f0_220 (Ls' := #[_, _, _, _, _, _, _, _, _, _, _, _, _, _, _, _, _, _, _]) rfl ?_
        refine o_aload X5 f0_222 rfl rfl ?_
        refine o_iconst 0 X5 f0_224 rfl ?_
        have q195z := q195
        rw [Int32.lt_iff_toInt_lt, own_one] at q195z
        have hR0 : 0 < ((ln + 7) / 8).toNatClampNeg := by rw [own_nat ((ln + 7) / 8)]; omega
        refine o_laloadN X5 f0_225 Ar (by decide) hR0 ?_
        refine o_lload X5 f0_226 rfl ?_
        refine o_lcmp X5 f0_228 ?_
        refine o_lif_eq_t X5 f0_229 (by rw [show Int32.toNatClampNeg 0 = 0 from rfl, hg 0 hR0, own_e0 f W ln _ eN (by omega) hf, hW0 (by omega)]) ?_
        refine o_iload X5 f0_234 rfl ?_
        refine o_iconst 2 X5 f0_236 rfl ?_
        refine o_icmp_lt X5 f0_237 (fun q237 => ?_) (fun q237 => ?_)
        · refine o_iconst 1 X5 f0_279 rfl ?_
          refine o_retZ X5 f0_280 (by decide) (by decide) ?_
          rfl
        · refine o_iload X5 f0_240 rfl ?_
          refine o_bipush 16 X5 f0_242 rfl ?_
          refine o_cutI2L 265 (if ln < 16 then x1 &&& ((1 : Int64) <<< ((8 * (ln - 8)).toInt64 &&& 63) - 1) else x1) (fun J => ?_) ?_
          · refine o_icmp_lt X5 f0_244 (fun q244 => ?_) (fun q244 => ?_)
            · refine o_lload_n X5 f0_251 rfl ?_
              refine o_lconst 1 X5 f0_252 rfl ?_
              refine o_bipush 8 X5 f0_253 rfl ?_
              refine o_iload X5 f0_255 rfl ?_
              refine o_bipush 8 X5 f0_257 rfl ?_
              refine o_isub X5 f0_259 ?_
              refine o_imul X5 f0_260 ?_
              refine o_lshl X5 f0_261 ?_
              refine o_lconst 1 X5 f0_262 rfl ?_
              refine o_lsub X5 f0_263 ?_
              refine o_land X5 f0_264 ?_
              simpa only [q244, ↓reduceIte, if_true, if_false] using J
            · refine o_lload_n X5 f0_247 rfl ?_
              refine o_goto X5 f0_248 ?_
              simpa only [q244, ↓reduceIte, if_true, if_false] using J
          refine o_lstore X5 f0_265 (Ls' := #[_, _, _, _, _, _, _, _, _, _, _, _, _, _, _, _, _, _, _]) rfl ?_
          refine o_aload X5 f0_267 rfl rfl ?_
          refine o_iconst 1 X5 f0_269 rfl ?_
          have q237z := q237
          rw [Int32.lt_iff_toInt_lt, own_two] at q237z
          have hR1 : 1 < ((ln + 7) / 8).toNatClampNeg := by rw [own_nat ((ln + 7) / 8)]; omega
          refine o_laloadN X5 f0_270 Ar (by decide) hR1 ?_
          refine o_lload X5 f0_271 rfl ?_
          refine o_lcmp X5 f0_273 ?_
          refine o_lif_eq_t X5 f0_274 (by rw [show Int32.toNatClampNeg 1 = 1 from rfl, hg 1 hR1, own_e1 f W ln _ eN (by omega) (by omega) hf, hW1 (by omega)]) ?_
          refine o_iconst 1 X5 f0_279 rfl ?_
          refine o_retZ X5 f0_280 (by decide) (by decide) ?_
          rfl
    · refine o_iload X4 f0_114 rfl ?_
      refine o_bipush 8 X4 f0_116 rfl ?_
      have q111z := q111
      rw [Int32.lt_iff_toInt_lt] at q111z
      refine o_cutI2L 126 (W (ii.toNatClampNeg / 8)) (fun J => ?_) ?_
      · refine o_icmp_ge X4 f0_118 (fun q118 => ?_) (fun q118 => ?_)
        · rw [Int32.lt_iff_toInt_lt, own_8] at q118
          refine o_lload_n X4 f0_125 rfl ?_
          rw [show ii.toNatClampNeg / 8 = 1 by rw [own_nat]; omega, hW1 (by omega)] at J; exact J
        · rw [Int32.lt_iff_toInt_lt, own_8] at q118
          refine o_lload_n X4 f0_121 rfl ?_
          refine o_goto X4 f0_122 ?_
          rw [show ii.toNatClampNeg / 8 = 0 by rw [own_nat]; omega, hW0 (by omega)] at J; exact J
      refine o_lstore X4 f0_126 (Ls' := #[_, _, _, _, _, _, _, _, _, _, _, _, _, _, _, _, _, _, _]) rfl ?_
      refine o_iload X4 f0_128 rfl ?_
      refine o_bipush 8 X4 f0_130 rfl ?_
      refine o_irem X4 f0_132 (by decide) ?_
      refine o_istore X4 f0_133 (Ls' := #[_, _, _, _, _, _, _, _, _, _, _, _, _, _, _, _, _, _, _]) rfl ?_
      refine o_lload X4 f0_135 rfl ?_
      refine o_bipush 56 X4 f0_137 rfl ?_
      refine o_bipush 8 X4 f0_139 rfl ?_
      refine o_iload X4 f0_141 rfl ?_
      refine o_imul X4 f0_143 ?_
      refine o_isub X4 f0_144 ?_
      refine o_lshl X4 f0_145 ?_
      refine o_bipush 56 X4 f0_146 rfl ?_
      refine o_lshr X4 f0_148 ?_
      refine o_lstore X4 f0_149 (Ls' := #[_, _, _, _, _, _, _, _, _, _, _, _, _, _, _, _, _, _, _]) rfl ?_
      refine o_aload X4 f0_151 rfl rfl ?_
      refine o_iload X4 f0_153 rfl ?_
      refine o_baloadN X4 f0_155 Ab (own_nn ri.1) (by rw [own_nat ii]; omega) ?_
      rw [hf ii.toNatClampNeg (by rw [own_nat ii]; omega)]
      refine o_i2l X4 f0_156 ?_
      refine o_lload X4 f0_157 rfl ?_
      refine o_lcmp X4 f0_159 ?_
      refine o_lif_eq_t X4 f0_160 (own_byL _ _ _ (by have := (c_irem ii 8 8 own_8).1 ri.1; rw [this, own_nat]; omega) (Nat.mod_lt _ (by decide))) ?_
      refine o_aload X4 f0_165 rfl rfl ?_
      refine o_callS X4 6 f0_167 (hw _ (List.mem_of_getElem? (i := 11) rfl)) (hw _ (List.mem_of_getElem? (i := 12) rfl)) (hw _ (List.mem_of_getElem? (i := 6) rfl)) (hw _ (List.mem_of_getElem? (i := 13) rfl)) (by decide) (rm2 K.l Z a0 hw bb _ n0 (Nat.le_trans hbb (Nat.le_of_lt Ab.lt)) ln f hl0 hl1 Ab) (lenOf pd1 rfl) rfl rfl (by first | exact Nat.zero_le _ | simp [Value.category]) (by decide) ?_
      rintro T6 h6 v6 ⟨rr, g, rfl, Ar, hg⟩ X6
      refine o_v1 ?_
      refine o_astore X6 f0_170 rfl (Ls' := #[_, _, _, _, _, _, _, _, _, _, _, _, _, _, _, _, _, _, _]) rfl ?_
      refine o_iload X6 f0_172 rfl ?_
      refine o_bipush 7 X6 f0_174 rfl ?_
      refine o_iadd X6 f0_176 ?_
      refine o_bipush 8 X6 f0_177 rfl ?_
      refine o_idiv X6 f0_179 (by decide) ?_
      refine o_istore X6 f0_180 (Ls' := #[_, _, _, _, _, _, _, _, _, _, _, _, _, _, _, _, _, _, _]) rfl ?_
      refine o_aload X6 f0_182 rfl rfl ?_
      refine o_alenL X6 ((ln + 7) / 8) f0_184 Ar (back32 (own_nn (by omega))).1 ?_
      refine o_iload X6 f0_185 rfl ?_
      refine o_icmp_eq_t X6 f0_187 (rfl) ?_
      refine o_iload X6 f0_192 rfl ?_
      refine o_iconst 1 X6 f0_194 rfl ?_
      refine o_icmp_lt X6 f0_195 (fun q195 => ?_) (fun q195 => ?_)
      · refine o_iload X6 f0_234 rfl ?_
        refine o_iconst 2 X6 f0_236 rfl ?_
        refine o_icmp_lt X6 f0_237 (fun q237 => ?_) (fun q237 => ?_)
        · refine o_iconst 1 X6 f0_279 rfl ?_
          refine o_retZ X6 f0_280 (by decide) (by decide) ?_
          rfl
        · refine o_iload X6 f0_240 rfl ?_
          refine o_bipush 16 X6 f0_242 rfl ?_
          refine o_cutI2L 265 (if ln < 16 then x1 &&& ((1 : Int64) <<< ((8 * (ln - 8)).toInt64 &&& 63) - 1) else x1) (fun J => ?_) ?_
          · refine o_icmp_lt X6 f0_244 (fun q244 => ?_) (fun q244 => ?_)
            · refine o_lload_n X6 f0_251 rfl ?_
              refine o_lconst 1 X6 f0_252 rfl ?_
              refine o_bipush 8 X6 f0_253 rfl ?_
              refine o_iload X6 f0_255 rfl ?_
              refine o_bipush 8 X6 f0_257 rfl ?_
              refine o_isub X6 f0_259 ?_
              refine o_imul X6 f0_260 ?_
              refine o_lshl X6 f0_261 ?_
              refine o_lconst 1 X6 f0_262 rfl ?_
              refine o_lsub X6 f0_263 ?_
              refine o_land X6 f0_264 ?_
              simpa only [q244, ↓reduceIte, if_true, if_false] using J
            · refine o_lload_n X6 f0_247 rfl ?_
              refine o_goto X6 f0_248 ?_
              simpa only [q244, ↓reduceIte, if_true, if_false] using J
          refine o_lstore X6 f0_265 (Ls' := #[_, _, _, _, _, _, _, _, _, _, _, _, _, _, _, _, _, _, _]) rfl ?_
          refine o_aload X6 f0_267 rfl rfl ?_
          refine o_iconst 1 X6 f0_269 rfl ?_
          have q237z := q237
          rw [Int32.lt_iff_toInt_lt, own_two] at q237z
          have hR1 : 1 < ((ln + 7) / 8).toNatClampNeg := by rw [own_nat ((ln + 7) / 8)]; omega
          refine o_laloadN X6 f0_270 Ar (by decide) hR1 ?_
          refine o_lload X6 f0_271 rfl ?_
          refine o_lcmp X6 f0_273 ?_
          refine o_lif_eq_t X6 f0_274 (by rw [show Int32.toNatClampNeg 1 = 1 from rfl, hg 1 hR1, own_e1 f W ln _ eN (by omega) (by omega) hf, hW1 (by omega)]) ?_
          refine o_iconst 1 X6 f0_279 rfl ?_
          refine o_retZ X6 f0_280 (by decide) (by decide) ?_
          rfl
      · refine o_iload X6 f0_198 rfl ?_
        refine o_bipush 8 X6 f0_200 rfl ?_
        refine o_cutI2L 220 (if ln < 8 then x0 &&& ((1 : Int64) <<< ((8 * ln).toInt64 &&& 63) - 1) else x0) (fun J => ?_) ?_
        · refine o_icmp_lt X6 f0_202 (fun q202 => ?_) (fun q202 => ?_)
          · refine o_lload_n X6 f0_209 rfl ?_
            refine o_lconst 1 X6 f0_210 rfl ?_
            refine o_bipush 8 X6 f0_211 rfl ?_
            refine o_iload X6 f0_213 rfl ?_
            refine o_imul X6 f0_215 ?_
            refine o_lshl X6 f0_216 ?_
            refine o_lconst 1 X6 f0_217 rfl ?_
            refine o_lsub X6 f0_218 ?_
            refine o_land X6 f0_219 ?_
            simpa only [q202, ↓reduceIte, if_true, if_false] using J
          · refine o_lload_n X6 f0_205 rfl ?_
            refine o_goto X6 f0_206 ?_
            simpa only [q202, ↓reduceIte, if_true, if_false] using J
        refine o_lstore X6 f0_220 (Ls' := #[_, _, _, _, _, _, _, _, _, _, _, _, _, _, _, _, _, _, _]) rfl ?_
        refine o_aload X6 f0_222 rfl rfl ?_
        refine o_iconst 0 X6 f0_224 rfl ?_
        have q195z := q195
        rw [Int32.lt_iff_toInt_lt, own_one] at q195z
        have hR0 : 0 < ((ln + 7) / 8).toNatClampNeg := by rw [own_nat ((ln + 7) / 8)]; omega
        refine o_laloadN X6 f0_225 Ar (by decide) hR0 ?_
        refine o_lload X6 f0_226 rfl ?_
        refine o_lcmp X6 f0_228 ?_
        refine o_lif_eq_t X6 f0_229 (by rw [show Int32.toNatClampNeg 0 = 0 from rfl, hg 0 hR0, own_e0 f W ln _ eN (by omega) hf, hW0 (by omega)]) ?_
        refine o_iload X6 f0_234 rfl ?_
        refine o_iconst 2 X6 f0_236 rfl ?_
        refine o_icmp_lt X6 f0_237 (fun q237 => ?_) (fun q237 => ?_)
        · refine o_iconst 1 X6 f0_279 rfl ?_
          refine o_retZ X6 f0_280 (by decide) (by decide) ?_
          rfl
        · refine o_iload X6 f0_240 rfl ?_
          refine o_bipush 16 X6 f0_242 rfl ?_
          refine o_cutI2L 265 (if ln < 16 then x1 &&& ((1 : Int64) <<< ((8 * (ln - 8)).toInt64 &&& 63) - 1) else x1) (fun J => ?_) ?_
          · refine o_icmp_lt X6 f0_244 (fun q244 => ?_) (fun q244 => ?_)
            · refine o_lload_n X6 f0_251 rfl ?_
              refine o_lconst 1 X6 f0_252 rfl ?_
              refine o_bipush 8 X6 f0_253 rfl ?_
              refine o_iload X6 f0_255 rfl ?_
              refine o_bipush 8 X6 f0_257 rfl ?_
              refine o_isub X6 f0_259 ?_
              refine o_imul X6 f0_260 ?_
              refine o_lshl X6 f0_261 ?_
              refine o_lconst 1 X6 f0_262 rfl ?_
              refine o_lsub X6 f0_263 ?_
              refine o_land X6 f0_264 ?_
              simpa only [q244, ↓reduceIte, if_true, if_false] using J
            · refine o_lload_n X6 f0_247 rfl ?_
              refine o_goto X6 f0_248 ?_
              simpa only [q244, ↓reduceIte, if_true, if_false] using J
          refine o_lstore X6 f0_265 (Ls' := #[_, _, _, _, _, _, _, _, _, _, _, _, _, _, _, _, _, _, _]) rfl ?_
          refine o_aload X6 f0_267 rfl rfl ?_
          refine o_iconst 1 X6 f0_269 rfl ?_
          have q237z := q237
          rw [Int32.lt_iff_toInt_lt, own_two] at q237z
          have hR1 : 1 < ((ln + 7) / 8).toNatClampNeg := by rw [own_nat ((ln + 7) / 8)]; omega
          refine o_laloadN X6 f0_270 Ar (by decide) hR1 ?_
          refine o_lload X6 f0_271 rfl ?_
          refine o_lcmp X6 f0_273 ?_
          refine o_lif_eq_t X6 f0_274 (by rw [show Int32.toNatClampNeg 1 = 1 from rfl, hg 1 hR1, own_e1 f W ln _ eN (by omega) (by omega) hf, hW1 (by omega)]) ?_
          refine o_iconst 1 X6 f0_279 rfl ?_
          refine o_retZ X6 f0_280 (by decide) (by decide) ?_
          rfl
  · refine o_iload X f0_9 rfl ?_
    refine o_if_ne_t X f0_11 (by decide) ?_
    refine o_iload X f0_20 rfl ?_
    refine o_iconst 1 X f0_22 rfl ?_
    refine o_icmp_ne_t X f0_23 (by decide) ?_
    refine o_iconst 2 X f0_36 rfl ?_
    refine o_newarrayL X 2 2 f0_37 (hw _ (List.mem_of_getElem? (i := 1) rfl)) (by decide) (by decide) (by decide) (by decide) ?_
    intro T1 h1 wa e1 X1 E1 A1
    have ha : n0 ≤ wa := e1 ▸ hn0
    refine o_dup X1 f0_39 rfl ?_
    refine o_iconst 0 X1 f0_40 rfl ?_
    refine o_lload_n X1 f0_41 rfl ?_
    refine o_lastoreN X1 f0_42 A1 (by decide) (by decide) ha ?_
    intro T2 h2 X2 W2 A2
    refine o_dup X2 f0_43 rfl ?_
    refine o_iconst 1 X2 f0_44 rfl ?_
    refine o_lload_n X2 f0_45 rfl ?_
    refine o_lastoreN X2 f0_46 A2 (by decide) (by decide) ha ?_
    intro T3 h3 X3 W3 A3
    obtain ⟨W, AW, hW0, hW1⟩ : ∃ W : Nat → Int64, LN Z _ wa 2 W ∧ (2 ≥ 1 → W 0 = x0) ∧ (2 ≥ 2 → W 1 = x1) := ⟨_, A3, fun q => by first | rfl | exact absurd q (by decide), fun q => by first | rfl | exact absurd q (by decide)⟩
    refine o_astore X3 f0_47 rfl (Ls' := #[_, _, _, _, _, _, _, _, _, _, _, _, _, _, _, _, _, _, _]) rfl ?_
    refine o_iload X3 f0_49 rfl ?_
    refine o_ldc X3 f0_51 (hw _ (List.mem_of_getElem? (i := 0) rfl)) ?_
    refine o_iand X3 f0_53 ?_
    refine o_bipush 64 X3 f0_54 rfl ?_
    refine o_iload X3 f0_56 rfl ?_
    refine o_imul X3 f0_58 ?_
    refine o_iconst 1 X3 f0_59 rfl ?_
    refine o_iadd X3 f0_60 ?_
    refine o_irem X3 f0_61 (by decide) ?_
    refine o_gen fun bi e_bi => ?_
    have rb := own_rem x3 (64 * 2 + 1) (by decide)
    rw [← e_bi] at rb
    have cb : (64 * 2 + 1 : Int32).toInt = 129 := by decide
    clear e_bi
    refine o_i2l X3 f0_62 ?_
    refine o_genL fun bits e_b => ?_
    have eb : bits.toInt = bi.toInt := by rw [e_b, c_i2l]
    have el := own_len bits (by omega) (by omega)
    clear e_b
    refine o_lstore X3 f0_63 (Ls' := #[_, _, _, _, _, _, _, _, _, _, _, _, _, _, _, _, _, _, _]) rfl ?_
    refine o_lload X3 f0_65 rfl ?_
    refine o_ldc2 X3 f0_67 (hw _ (List.mem_of_getElem? (i := 2) rfl)) ?_
    refine o_ladd X3 f0_70 ?_
    refine o_ldc2 X3 f0_71 (hw _ (List.mem_of_getElem? (i := 3) rfl)) ?_
    refine o_ldiv X3 f0_74 (by decide) ?_
    refine o_l2i X3 f0_75 ?_
    refine o_gen fun ln e_ln => ?_
    rw [← e_ln] at el
    have hl0 : 0 ≤ ln.toInt := by omega
    have hl1 : ln.toInt ≤ 16 := by omega
    have hl2 : ln.toInt ≤ 8 * (2 : Nat) := by omega
    have hln0 : ¬ ln < 0 := own_nn hl0
    have eN : ln.toInt = (ln.toNatClampNeg : Int) := by rw [own_nat]; omega
    have eR := own_rl ln hl0 hl1
    refine o_istore X3 f0_76 (Ls' := #[_, _, _, _, _, _, _, _, _, _, _, _, _, _, _, _, _, _, _]) rfl ?_
    refine o_aload X3 f0_78 rfl rfl ?_
    refine o_lload X3 f0_80 rfl ?_
    refine o_callS X3 6 f0_82 (hw _ (List.mem_of_getElem? (i := 4) rfl)) (hw _ (List.mem_of_getElem? (i := 5) rfl)) (hw _ (List.mem_of_getElem? (i := 6) rfl)) (hw _ (List.mem_of_getElem? (i := 7) rfl)) (by decide) (rm1 K.l Z a0 hw wa _ _ n0 (Nat.le_trans ha (Nat.le_of_lt AW.lt)) _ W ln e_ln.symm hl0 hl1 hl2 AW) (lenOf pd0 rfl) rfl rfl (by first | exact Nat.zero_le _ | simp [Value.category]) (by decide) ?_
    rintro T5 h5 v5 ⟨bb, f, rfl, Ab, hbb, hf⟩ X5
    refine o_v1 ?_
    refine o_astore X5 f0_85 rfl (Ls' := #[_, _, _, _, _, _, _, _, _, _, _, _, _, _, _, _, _, _, _]) rfl ?_
    refine o_aload X5 f0_87 rfl rfl ?_
    refine o_alenN X5 ln f0_89 Ab (back32 hln0).1 ?_
    refine o_iload X5 f0_90 rfl ?_
    refine o_icmp_eq_t X5 f0_92 (rfl) ?_
    refine o_iload X5 f0_97 rfl ?_
    refine o_ldc X5 f0_99 (hw _ (List.mem_of_getElem? (i := 0) rfl)) ?_
    refine o_iand X5 f0_101 ?_
    refine o_bipush 16 X5 f0_102 rfl ?_
    refine o_irem X5 f0_104 (by decide) ?_
    refine o_gen fun ii e_i => ?_
    have ri := own_rem x4 16 (by decide)
    rw [← e_i] at ri
    have c16 : (16 : Int32).toInt = 16 := by decide
    clear e_i
    refine o_istore X5 f0_105 (Ls' := #[_, _, _, _, _, _, _, _, _, _, _, _, _, _, _, _, _, _, _]) rfl ?_
    refine o_iload X5 f0_107 rfl ?_
    refine o_iload X5 f0_109 rfl ?_
    refine o_icmp_ge X5 f0_111 (fun q111 => ?_) (fun q111 => ?_)
    · refine o_aload X5 f0_165 rfl rfl ?_
      refine o_callS X5 6 f0_167 (hw _ (List.mem_of_getElem? (i := 11) rfl)) (hw _ (List.mem_of_getElem? (i := 12) rfl)) (hw _ (List.mem_of_getElem? (i := 6) rfl)) (hw _ (List.mem_of_getElem? (i := 13) rfl)) (by decide) (rm2 K.l Z a0 hw bb _ n0 (Nat.le_trans hbb (Nat.le_of_lt Ab.lt)) ln f hl0 hl1 Ab) (lenOf pd1 rfl) rfl rfl (by first | exact Nat.zero_le _ | simp [Value.category]) (by decide) ?_
      rintro T6 h6 v6 ⟨rr, g, rfl, Ar, hg⟩ X6
      refine o_v1 ?_
      refine o_astore X6 f0_170 rfl (Ls' := #[_, _, _, _, _, _, _, _, _, _, _, _, _, _, _, _, _, _, _]) rfl ?_
      refine o_iload X6 f0_172 rfl ?_
      refine o_bipush 7 X6 f0_174 rfl ?_
      refine o_iadd X6 f0_176 ?_
      refine o_bipush 8 X6 f0_177 rfl ?_
      refine o_idiv X6 f0_179 (by decide) ?_
      refine o_istore X6 f0_180 (Ls' := #[_, _, _, _, _, _, _, _, _, _, _, _, _, _, _, _, _, _, _]) rfl ?_
      refine o_aload X6 f0_182 rfl rfl ?_
      refine o_alenL X6 ((ln + 7) / 8) f0_184 Ar (back32 (own_nn (by omega))).1 ?_
      refine o_iload X6 f0_185 rfl ?_
      refine o_icmp_eq_t X6 f0_187 (rfl) ?_
      refine o_iload X6 f0_192 rfl ?_
      refine o_iconst 1 X6 f0_194 rfl ?_
      refine o_icmp_lt X6 f0_195 (fun q195 => ?_) (fun q195 => ?_)
      · refine o_iload X6 f0_234 rfl ?_
        refine o_iconst 2 X6 f0_236 rfl ?_
        refine o_icmp_lt X6 f0_237 (fun q237 => ?_) (fun q237 => ?_)
        · refine o_iconst 1 X6 f0_279 rfl ?_
          refine o_retZ X6 f0_280 (by decide) (by decide) ?_
          rfl
        · refine o_iload X6 f0_240 rfl ?_
          refine o_bipush 16 X6 f0_242 rfl ?_
          refine o_cutI2L 265 (if ln < 16 then x1 &&& ((1 : Int64) <<< ((8 * (ln - 8)).toInt64 &&& 63) - 1) else x1) (fun J => ?_) ?_
          · refine o_icmp_lt X6 f0_244 (fun q244 => ?_) (fun q244 => ?_)
            · refine o_lload_n X6 f0_251 rfl ?_
              refine o_lconst 1 X6 f0_252 rfl ?_
              refine o_bipush 8 X6 f0_253 rfl ?_
              refine o_iload X6 f0_255 rfl ?_
              refine o_bipush 8 X6 f0_257 rfl ?_
              refine o_isub X6 f0_259 ?_
              refine o_imul X6 f0_260 ?_
              refine o_lshl X6 f0_261 ?_
              refine o_lconst 1 X6 f0_262 rfl ?_
              refine o_lsub X6 f0_263 ?_
              refine o_land X6 f0_264 ?_
              simpa only [q244, ↓reduceIte, if_true, if_false] using J
            · refine o_lload_n X6 f0_247 rfl ?_
              refine o_goto X6 f0_248 ?_
              simpa only [q244, ↓reduceIte, if_true, if_false] using J
          refine o_lstore X6 f0_265 (Ls' := #[_, _, _, _, _, _, _, _, _, _, _, _, _, _, _, _, _, _, _]) rfl ?_
          refine o_aload X6 f0_267 rfl rfl ?_
          refine o_iconst 1 X6 f0_269 rfl ?_
          have q237z := q237
          rw [Int32.lt_iff_toInt_lt, own_two] at q237z
          have hR1 : 1 < ((ln + 7) / 8).toNatClampNeg := by rw [own_nat ((ln + 7) / 8)]; omega
          refine o_laloadN X6 f0_270 Ar (by decide) hR1 ?_
          refine o_lload X6 f0_271 rfl ?_
          refine o_lcmp X6 f0_273 ?_
          refine o_lif_eq_t X6 f0_274 (by rw [show Int32.toNatClampNeg 1 = 1 from rfl, hg 1 hR1, own_e1 f W ln _ eN (by omega) (by omega) hf, hW1 (by omega)]) ?_
          refine o_iconst 1 X6 f0_279 rfl ?_
          refine o_retZ X6 f0_280 (by decide) (by decide) ?_
          rfl
      · refine o_iload X6 f0_198 rfl ?_
        refine o_bipush 8 X6 f0_200 rfl ?_
        refine o_cutI2L 220 (if ln < 8 then x0 &&& ((1 : Int64) <<< ((8 * ln).toInt64 &&& 63) - 1) else x0) (fun J => ?_) ?_
        · refine o_icmp_lt X6 f0_202 (fun q202 => ?_) (fun q202 => ?_)
          · refine o_lload_n X6 f0_209 rfl ?_
            refine o_lconst 1 X6 f0_210 rfl ?_
            refine o_bipush 8 X6 f0_211 rfl ?_
            refine o_iload X6 f0_213 rfl ?_
            refine o_imul X6 f0_215 ?_
            refine o_lshl X6 f0_216 ?_
            refine o_lconst 1 X6 f0_217 rfl ?_
            refine o_lsub X6 f0_218 ?_
            refine o_land X6 f0_219 ?_
            simpa only [q202, ↓reduceIte, if_true, if_false] using J
          · refine o_lload_n X6 f0_205 rfl ?_
            refine o_goto X6 f0_206 ?_
            simpa only [q202, ↓reduceIte, if_true, if_false] using J
        refine o_lstore X6 f0_220 (Ls' := #[_, _, _, _, _, _, _, _, _, _, _, _, _, _, _, _, _, _, _]) rfl ?_
        refine o_aload X6 f0_222 rfl rfl ?_
        refine o_iconst 0 X6 f0_224 rfl ?_
        have q195z := q195
        rw [Int32.lt_iff_toInt_lt, own_one] at q195z
        have hR0 : 0 < ((ln + 7) / 8).toNatClampNeg := by rw [own_nat ((ln + 7) / 8)]; omega
        refine o_laloadN X6 f0_225 Ar (by decide) hR0 ?_
        refine o_lload X6 f0_226 rfl ?_
        refine o_lcmp X6 f0_228 ?_
        refine o_lif_eq_t X6 f0_229 (by rw [show Int32.toNatClampNeg 0 = 0 from rfl, hg 0 hR0, own_e0 f W ln _ eN (by omega) hf, hW0 (by omega)]) ?_
        refine o_iload X6 f0_234 rfl ?_
        refine o_iconst 2 X6 f0_236 rfl ?_
        refine o_icmp_lt X6 f0_237 (fun q237 => ?_) (fun q237 => ?_)
        · refine o_iconst 1 X6 f0_279 rfl ?_
          refine o_retZ X6 f0_280 (by decide) (by decide) ?_
          rfl
        · refine o_iload X6 f0_240 rfl ?_
          refine o_bipush 16 X6 f0_242 rfl ?_
          refine o_cutI2L 265 (if ln < 16 then x1 &&& ((1 : Int64) <<< ((8 * (ln - 8)).toInt64 &&& 63) - 1) else x1) (fun J => ?_) ?_
          · refine o_icmp_lt X6 f0_244 (fun q244 => ?_) (fun q244 => ?_)
            · refine o_lload_n X6 f0_251 rfl ?_
              refine o_lconst 1 X6 f0_252 rfl ?_
              refine o_bipush 8 X6 f0_253 rfl ?_
              refine o_iload X6 f0_255 rfl ?_
              refine o_bipush 8 X6 f0_257 rfl ?_
              refine o_isub X6 f0_259 ?_
              refine o_imul X6 f0_260 ?_
              refine o_lshl X6 f0_261 ?_
              refine o_lconst 1 X6 f0_262 rfl ?_
              refine o_lsub X6 f0_263 ?_
              refine o_land X6 f0_264 ?_
              simpa only [q244, ↓reduceIte, if_true, if_false] using J
            · refine o_lload_n X6 f0_247 rfl ?_
              refine o_goto X6 f0_248 ?_
              simpa only [q244, ↓reduceIte, if_true, if_false] using J
          refine o_lstore X6 f0_265 (Ls' := #[_, _, _, _, _, _, _, _, _, _, _, _, _, _, _, _, _, _, _]) rfl ?_
          refine o_aload X6 f0_267 rfl rfl ?_
          refine o_iconst 1 X6 f0_269 rfl ?_
          have q237z := q237
          rw [Int32.lt_iff_toInt_lt, own_two] at q237z
          have hR1 : 1 < ((ln + 7) / 8).toNatClampNeg := by rw [own_nat ((ln + 7) / 8)]; omega
          refine o_laloadN X6 f0_270 Ar (by decide) hR1 ?_
          refine o_lload X6 f0_271 rfl ?_
          refine o_lcmp X6 f0_273 ?_
          refine o_lif_eq_t X6 f0_274 (by rw [show Int32.toNatClampNeg 1 = 1 from rfl, hg 1 hR1, own_e1 f W ln _ eN (by omega) (by omega) hf, hW1 (by omega)]) ?_
          refine o_iconst 1 X6 f0_279 rfl ?_
          refine o_retZ X6 f0_280 (by decide) (by decide) ?_
          rfl
    · refine o_iload X5 f0_114 rfl ?_
      refine o_bipush 8 X5 f0_116 rfl ?_
      have q111z := q111
      rw [Int32.lt_iff_toInt_lt] at q111z
      refine o_cutI2L 126 (W (ii.toNatClampNeg / 8)) (fun J => ?_) ?_
      · refine o_icmp_ge X5 f0_118 (fun q118 => ?_) (fun q118 => ?_)
        · rw [Int32.lt_iff_toInt_lt, own_8] at q118
          refine o_lload_n X5 f0_125 rfl ?_
          rw [show ii.toNatClampNeg / 8 = 1 by rw [own_nat]; omega, hW1 (by omega)] at J; exact J
        · rw [Int32.lt_iff_toInt_lt, own_8] at q118
          refine o_lload_n X5 f0_121 rfl ?_
          refine o_goto X5 f0_122 ?_
          rw [show ii.toNatClampNeg / 8 = 0 by rw [own_nat]; omega, hW0 (by omega)] at J; exact J
      refine o_lstore X5 f0_126 (Ls' := #[_, _, _, _, _, _, _, _, _, _, _, _, _, _, _, _, _, _, _]) rfl ?_
      refine o_iload X5 f0_128 rfl ?_
      refine o_bipush 8 X5 f0_130 rfl ?_
      refine o_irem X5 f0_132 (by decide) ?_
      refine o_istore X5 f0_133 (Ls' := #[_, _, _, _, _, _, _, _, _, _, _, _, _, _, _, _, _, _, _]) rfl ?_
      refine o_lload X5 f0_135 rfl ?_
      refine o_bipush 56 X5 f0_137 rfl ?_
      refine o_bipush 8 X5 f0_139 rfl ?_
      refine o_iload X5 f0_141 rfl ?_
      refine o_imul X5 f0_143 ?_
      refine o_isub X5 f0_144 ?_
      refine o_lshl X5 f0_145 ?_
      refine o_bipush 56 X5 f0_146 rfl ?_
      refine o_lshr X5 f0_148 ?_
      refine o_lstore X5 f0_149 (Ls' := #[_, _, _, _, _, _, _, _, _, _, _, _, _, _, _, _, _, _, _]) rfl ?_
      refine o_aload X5 f0_151 rfl rfl ?_
      refine o_iload X5 f0_153 rfl ?_
      refine o_baloadN X5 f0_155 Ab (own_nn ri.1) (by rw [own_nat ii]; omega) ?_
      rw [hf ii.toNatClampNeg (by rw [own_nat ii]; omega)]
      refine o_i2l X5 f0_156 ?_
      refine o_lload X5 f0_157 rfl ?_
      refine o_lcmp X5 f0_159 ?_
      refine o_lif_eq_t X5 f0_160 (own_byL _ _ _ (by have := (c_irem ii 8 8 own_8).1 ri.1; rw [this, own_nat]; omega) (Nat.mod_lt _ (by decide))) ?_
      refine o_aload X5 f0_165 rfl rfl ?_
      refine o_callS X5 6 f0_167 (hw _ (List.mem_of_getElem? (i := 11) rfl)) (hw _ (List.mem_of_getElem? (i := 12) rfl)) (hw _ (List.mem_of_getElem? (i := 6) rfl)) (hw _ (List.mem_of_getElem? (i := 13) rfl)) (by decide) (rm2 K.l Z a0 hw bb _ n0 (Nat.le_trans hbb (Nat.le_of_lt Ab.lt)) ln f hl0 hl1 Ab) (lenOf pd1 rfl) rfl rfl (by first | exact Nat.zero_le _ | simp [Value.category]) (by decide) ?_
      rintro T7 h7 v7 ⟨rr, g, rfl, Ar, hg⟩ X7
      refine o_v1 ?_
      refine o_astore X7 f0_170 rfl (Ls' := #[_, _, _, _, _, _, _, _, _, _, _, _, _, _, _, _, _, _, _]) rfl ?_
      refine o_iload X7 f0_172 rfl ?_
      refine o_bipush 7 X7 f0_174 rfl ?_
      refine o_iadd X7 f0_176 ?_
      refine o_bipush 8 X7 f0_177 rfl ?_
      refine o_idiv X7 f0_179 (by decide) ?_
      refine o_istore X7 f0_180 (Ls' := #[_, _, _, _, _, _, _, _, _, _, _, _, _, _, _, _, _, _, _]) rfl ?_
      refine o_aload X7 f0_182 rfl rfl ?_
      refine o_alenL X7 ((ln + 7) / 8) f0_184 Ar (back32 (own_nn (by omega))).1 ?_
      refine o_iload X7 f0_185 rfl ?_
      refine o_icmp_eq_t X7 f0_187 (rfl) ?_
      refine o_iload X7 f0_192 rfl ?_
      refine o_iconst 1 X7 f0_194 rfl ?_
      refine o_icmp_lt X7 f0_195 (fun q195 => ?_) (fun q195 => ?_)
      · refine o_iload X7 f0_234 rfl ?_
        refine o_iconst 2 X7 f0_236 rfl ?_
        refine o_icmp_lt X7 f0_237 (fun q237 => ?_) (fun q237 => ?_)
        · refine o_iconst 1 X7 f0_279 rfl ?_
          refine o_retZ X7 f0_280 (by decide) (by decide) ?_
          rfl
        · refine o_iload X7 f0_240 rfl ?_
          refine o_bipush 16 X7 f0_242 rfl ?_
          refine o_cutI2L 265 (if ln < 16 then x1 &&& ((1 : Int64) <<< ((8 * (ln - 8)).toInt64 &&& 63) - 1) else x1) (fun J => ?_) ?_
          · refine o_icmp_lt X7 f0_244 (fun q244 => ?_) (fun q244 => ?_)
            · refine o_lload_n X7 f0_251 rfl ?_
              refine o_lconst 1 X7 f0_252 rfl ?_
              refine o_bipush 8 X7 f0_253 rfl ?_
              refine o_iload X7 f0_255 rfl ?_
              refine o_bipush 8 X7 f0_257 rfl ?_
              refine o_isub X7 f0_259 ?_
              refine o_imul X7 f0_260 ?_
              refine o_lshl X7 f0_261 ?_
              refine o_lconst 1 X7 f0_262 rfl ?_
              refine o_lsub X7 f0_263 ?_
              refine o_land X7 f0_264 ?_
              simpa only [q244, ↓reduceIte, if_true, if_false] using J
            · refine o_lload_n X7 f0_247 rfl ?_
              refine o_goto X7 f0_248 ?_
              simpa only [q244, ↓reduceIte, if_true, if_false] using J
          refine o_lstore X7 f0_265 (Ls' := #[_, _, _, _, _, _, _, _, _, _, _, _, _, _, _, _, _, _, _]) rfl ?_
          refine o_aload X7 f0_267 rfl rfl ?_
          refine o_iconst 1 X7 f0_269 rfl ?_
          have q237z := q237
          rw [Int32.lt_iff_toInt_lt, own_two] at q237z
          have hR1 : 1 < ((ln + 7) / 8).toNatClampNeg := by rw [own_nat ((ln + 7) / 8)]; omega
          refine o_laloadN X7 f0_270 Ar (by decide) hR1 ?_
          refine o_lload X7 f0_271 rfl ?_
          refine o_lcmp X7 f0_273 ?_
          refine o_lif_eq_t X7 f0_274 (by rw [show Int32.toNatClampNeg 1 = 1 from rfl, hg 1 hR1, own_e1 f W ln _ eN (by omega) (by omega) hf, hW1 (by omega)]) ?_
          refine o_iconst 1 X7 f0_279 rfl ?_
          refine o_retZ X7 f0_280 (by decide) (by decide) ?_
          rfl
      · refine o_iload X7 f0_198 rfl ?_
        refine o_bipush 8 X7 f0_200 rfl ?_
        refine o_cutI2L 220 (if ln < 8 then x0 &&& ((1 : Int64) <<< ((8 * ln).toInt64 &&& 63) - 1) else x0) (fun J => ?_) ?_
        · refine o_icmp_lt X7 f0_202 (fun q202 => ?_) (fun q202 => ?_)
          · refine o_lload_n X7 f0_209 rfl ?_
            refine o_lconst 1 X7 f0_210 rfl ?_
            refine o_bipush 8 X7 f0_211 rfl ?_
            refine o_iload X7 f0_213 rfl ?_
            refine o_imul X7 f0_215 ?_
            refine o_lshl X7 f0_216 ?_
            refine o_lconst 1 X7 f0_217 rfl ?_
            refine o_lsub X7 f0_218 ?_
            refine o_land X7 f0_219 ?_
            simpa only [q202, ↓reduceIte, if_true, if_false] using J
          · refine o_lload_n X7 f0_205 rfl ?_
            refine o_goto X7 f0_206 ?_
            simpa only [q202, ↓reduceIte, if_true, if_false] using J
        refine o_lstore X7 f0_220 (Ls' := #[_, _, _, _, _, _, _, _, _, _, _, _, _, _, _, _, _, _, _]) rfl ?_
        refine o_aload X7 f0_222 rfl rfl ?_
        refine o_iconst 0 X7 f0_224 rfl ?_
        have q195z := q195
        rw [Int32.lt_iff_toInt_lt, own_one] at q195z
        have hR0 : 0 < ((ln + 7) / 8).toNatClampNeg := by rw [own_nat ((ln + 7) / 8)]; omega
        refine o_laloadN X7 f0_225 Ar (by decide) hR0 ?_
        refine o_lload X7 f0_226 rfl ?_
        refine o_lcmp X7 f0_228 ?_
        refine o_lif_eq_t X7 f0_229 (by rw [show Int32.toNatClampNeg 0 = 0 from rfl, hg 0 hR0, own_e0 f W ln _ eN (by omega) hf, hW0 (by omega)]) ?_
        refine o_iload X7 f0_234 rfl ?_
        refine o_iconst 2 X7 f0_236 rfl ?_
        refine o_icmp_lt X7 f0_237 (fun q237 => ?_) (fun q237 => ?_)
        · refine o_iconst 1 X7 f0_279 rfl ?_
          refine o_retZ X7 f0_280 (by decide) (by decide) ?_
          rfl
        · refine o_iload X7 f0_240 rfl ?_
          refine o_bipush 16 X7 f0_242 rfl ?_
          refine o_cutI2L 265 (if ln < 16 then x1 &&& ((1 : Int64) <<< ((8 * (ln - 8)).toInt64 &&& 63) - 1) else x1) (fun J => ?_) ?_
          · refine o_icmp_lt X7 f0_244 (fun q244 => ?_) (fun q244 => ?_)
            · refine o_lload_n X7 f0_251 rfl ?_
              refine o_lconst 1 X7 f0_252 rfl ?_
              refine o_bipush 8 X7 f0_253 rfl ?_
              refine o_iload X7 f0_255 rfl ?_
              refine o_bipush 8 X7 f0_257 rfl ?_
              refine o_isub X7 f0_259 ?_
              refine o_imul X7 f0_260 ?_
              refine o_lshl X7 f0_261 ?_
              refine o_lconst 1 X7 f0_262 rfl ?_
              refine o_lsub X7 f0_263 ?_
              refine o_land X7 f0_264 ?_
              simpa only [q244, ↓reduceIte, if_true, if_false] using J
            · refine o_lload_n X7 f0_247 rfl ?_
              refine o_goto X7 f0_248 ?_
              simpa only [q244, ↓reduceIte, if_true, if_false] using J
          refine o_lstore X7 f0_265 (Ls' := #[_, _, _, _, _, _, _, _, _, _, _, _, _, _, _, _, _, _, _]) rfl ?_
          refine o_aload X7 f0_267 rfl rfl ?_
          refine o_iconst 1 X7 f0_269 rfl ?_
          have q237z := q237
          rw [Int32.lt_iff_toInt_lt, own_two] at q237z
          have hR1 : 1 < ((ln + 7) / 8).toNatClampNeg := by rw [own_nat ((ln + 7) / 8)]; omega
          refine o_laloadN X7 f0_270 Ar (by decide) hR1 ?_
          refine o_lload X7 f0_271 rfl ?_
          refine o_lcmp X7 f0_273 ?_
          refine o_lif_eq_t X7 f0_274 (by rw [show Int32.toNatClampNeg 1 = 1 from rfl, hg 1 hR1, own_e1 f W ln _ eN (by omega) (by omega) hf, hW1 (by omega)]) ?_
          refine o_iconst 1 X7 f0_279 rfl ?_
          refine o_retZ X7 f0_280 (by decide) (by decide) ?_
          rfl
set_option maxRecDepth 65536 in
set_option maxHeartbeats 40000000 in
theorem comes_1 {Post : Tables → Env → Array Value → State → Outcome → State → Prop} (hpost : ∀ tb e args s v u, (limb_1_1.after args s (.returned v) u = true ∧ limb_1_2.after args s (.returned v) u = true ∧ True) → FrameEnd s (.returned v) u (Jvm.fieldLocs frame_1_writes args s ++ Jvm.arrayLocs frame_1_arrays args s ++ Jvm.staticLocs frame_1_statics s) 16 128 → Post tb e args s (.returned v) u) :
    ArmFor flags0 classFile x code maxLocals ret World_1 tables_1 room_1 Calls_1 rest_1 Pre_1 Post := by
  intro l hfl _ _ p e ha hc hk s m args below hf hA hF happ hP
  obtain ⟨hcalls, hrest, hpre⟩ := hP
  obtain ⟨-, -, -, hnamed, -, -, -, hat⟩ := (Spec.applies_iff hf).mp happ
  obtain ⟨hg, hn⟩ := and_e (Cond.before_iff.mp (show (Jvm.Cond.and given_1 narrow_1).before args s = true from hpre))
  obtain ⟨g0, r0⟩ := and_e hg
  obtain ⟨p0, r1⟩ := and_e r0
  obtain ⟨p1, r2⟩ := and_e r1
  obtain ⟨p2, r3⟩ := and_e r2
  obtain ⟨p3, r4⟩ := and_e r3
  obtain ⟨w0, w1, w2, w3, w4, rfl⟩ : ∃ w0 w1 w2 w3 w4 : Value, args = #[w0, w1, w2, w3, w4] := by
    have hs : args.size = 5 := by simpa [Cond.value, given_1] using g0
    obtain ⟨L⟩ := args
    match L, hs with
    | [w0, w1, w2, w3, w4], _ => exact ⟨w0, w1, w2, w3, w4, rfl⟩
  have hw := fun d (hd : d ∈ tables_1) => atoms_spec (ws := Jvm.Cond.code x code maxLocals ret :: tables_1) hat d (List.mem_cons_of_mem _ hd)
  obtain ⟨i0, e0⟩ := isL_v p0
  obtain rfl : w0 = (.long i0) := Option.some.inj e0
  obtain ⟨i1, e1⟩ := isL_v p1
  obtain rfl : w1 = (.long i1) := Option.some.inj e1
  obtain ⟨i2, e2⟩ := is_v p2
  obtain rfl : w2 = (.int i2) := Option.some.inj e2
  obtain ⟨i3, e3⟩ := is_v p3
  obtain rfl : w3 = (.int i3) := Option.some.inj e3
  obtain ⟨i4, e4⟩ := is_v r4
  obtain rfl : w4 = (.int i4) := Option.some.inj e4
  obtain ⟨n, o, h1, h2, h3, _, L, rfl, ⟨rfl, N⟩, hq⟩ := rm0 l s _ hw i0 i1 i2 i3 i4 s.heap s.heap.size (Nat.le_refl _) p e ha hc hk s m _ below hf ((Spec.applies_iff_loose hf).mp happ).1 ⟨rfl, State.Warmed39.refl s, rfl⟩ trivial
  refine ⟨n, _, h1, h2, h3, hpost _ _ _ _ _ _ ⟨Cond.after_iff.mpr rfl, Cond.after_iff.mpr (eq_i res_at (Term.int_eval (1)) rfl), trivial⟩ ⟨hq.1, hq.2.1, (hq.2.2.sift fun y hy => Or.inr (N y hy)).mono (by decide) (by decide)⟩⟩
theorem main_1_1 : Claimed_1_1 := comes_1 fun _ _ _ _ _ _ h hF => ⟨h.1, hF⟩
theorem main_1_2 : Claimed_1_2 := comes_1 fun _ _ _ _ _ _ h hF => ⟨h.2.1, hF⟩
end Jvm.Pilot.@@N@@
namespace Jvm.Pilot.@@N@@
open Jvm Jvm.ClassFile Sem Op Lib Jvm.Free Jvm.Stand Jvm.Pilot.@@N@@.Jvm.D
/-! MADE BY PROGRAM (witnessworld.py) out of the Statement's table words and the real class files: 11 classes; the members and pool entries that the words name. The judged class is class 1, her method 1. -/
namespace start1
open Jvm.ClassFile
def u (s : String) : CpInfo := .utf8 (stringToUtf16 s)
/-- a pool by its gaps: so many unusable entries, then the entry; so many at the end -/
def gap : Nat → List CpInfo → List CpInfo
  | 0, r => r
  | n + 1, r => .unusable :: gap n r
def poolList (es : List (Nat × CpInfo)) (last : Nat) : List CpInfo := es.foldr (fun e r => gap e.1 (e.2 :: r)) (gap last [])
def pool (es : List (Nat × CpInfo)) (last : Nat) : Array CpInfo := ⟨poolList es last⟩
def fileOf (pool : Array CpInfo) (this : Nat) (attrs : Array Attribute := #[]) (ms : Array MethodInfo := #[]) (fl : Nat := 33) (sup : Nat := 0) (ifs : Array Nat := #[]) (fds : Array FieldInfo := #[]) : ClassFile where
  minorVersion := 0
  majorVersion := 65
  constantPool := pool
  accessFlags := fl
  thisClass := this
  superClass := sup
  interfaces := ifs
  fields := fds
  methods := ms
  attributes := attrs
def plain (name : String) (sup : Option ClassId) : Class where
  name := name
  kind := .ordinary
  loader := none
  accessFlags := 33
  super := sup
  interfaces := #[]
  cf := none
  fields := #[]
  methods := #[]
  instanceTypes := #[]
  staticTypes := #[]
  resolved := #[]
  callSites := []
  init := .initialized
  statics := none
  mirror := none

def pool0 : Array CpInfo := pool [(5, u "<init>"), (0, u "()V"), (1, .class_ 10), (1, u "java/lang/Object")] 113

def k0m0 : Method := { name := "<init>", desc := "()V", sig := { parameters := [], returnType := none }, accessFlags := 1, code := none }
/-- java/lang/Object -/
def k0 : Class := { plain "java/lang/Object" none with
  accessFlags := 33
  interfaces := #[]
  cf := some (fileOf pool0 8 #[] #[{ accessFlags := 1, nameIndex := 5, descriptorIndex := 6, attributes := #[] }] 33 0 #[] #[])
  fields := #[]
  methods := #[k0m0]
  instanceTypes := #[]
  staticTypes := #[]
  resolved := Array.replicate 124 none
  statics := none }

def pool1 : Array CpInfo := pool [(2, .class_ 4), (1, u "java/lang/Object"), (0, u "<init>"), (0, u "()V"), (0, .integer 2147483647), (0, .long 7), (1, .long 8), (1, .methodref 13 14), (0, .class_ 15), (0, .nameAndType 16 17), (0, u "com/example/nodewell/nodewell/store/BitCursor"), (0, u "toBytes"), (0, u "([JJ)[B"), (0, .methodref 13 19), (0, .nameAndType 20 21), (0, u "fromBytes"), (0, u "([B)[J"), (0, .class_ 23), (0, u "com/example/nodewell/nodewell/store/BitCursorToBytesPinLaw"), (2, u "law"), (0, u "(JJIII)Z")] 7

def k1m0 : Method := { name := "<init>", desc := "()V", sig := { parameters := [], returnType := none }, accessFlags := 2, code := none }
def k1c1 : Code := { maxStack := 7, maxLocals := 19, code := code, exceptionTable := #[], attributes := #[] }
def k1m1 : Method := { name := "law", desc := "(JJIII)Z", sig := { parameters := [.long, .long, .int, .int, .int], returnType := some .boolean }, accessFlags := 9, code := some k1c1 }
/-- com/example/nodewell/nodewell/store/BitCursorToBytesPinLaw -/
def k1 : Class := { plain "com/example/nodewell/nodewell/store/BitCursorToBytesPinLaw" (some 0) with
  accessFlags := 49
  interfaces := #[]
  cf := some (fileOf pool1 22 #[] #[{ accessFlags := 2, nameIndex := 5, descriptorIndex := 6, attributes := #[] }, { accessFlags := 9, nameIndex := 26, descriptorIndex := 27, attributes := #[] }] 49 2 #[] #[])
  fields := #[]
  methods := #[k1m0, k1m1]
  instanceTypes := #[]
  staticTypes := #[]
  resolved := Array.replicate 35 none
  statics := none }

def pool2 : Array CpInfo := pool [(2, .class_ 4), (1, u "java/lang/Object"), (3, .class_ 10), (1, u "com/example/nodewell/nodewell/store/BitCursor"), (0, u "words"), (0, u "[J"), (2, u "position"), (0, u "J"), (10, .long 7), (1, .long 8), (1, .long 255), (14, u "toBytes"), (0, u "([JJ)[B"), (2, u "fromBytes"), (0, u "([B)[J")] 3

def k2c0 : Code := { maxStack := 7, maxLocals := 5, code := prog_43_method_8_code, exceptionTable := #[], attributes := #[] }
def k2m0 : Method := { name := "toBytes", desc := "([JJ)[B", sig := { parameters := [(.array .long), .long], returnType := some (.array .byte) }, accessFlags := 8, code := some k2c0 }
def k2c1 : Code := { maxStack := 9, maxLocals := 3, code := prog_43_method_9_code, exceptionTable := #[], attributes := #[] }
def k2m1 : Method := { name := "fromBytes", desc := "([B)[J", sig := { parameters := [(.array .byte)], returnType := some (.array .long) }, accessFlags := 8, code := some k2c1 }
/-- com/example/nodewell/nodewell/store/BitCursor -/
def k2 : Class := { plain "com/example/nodewell/nodewell/store/BitCursor" (some 0) with
  accessFlags := 48
  interfaces := #[]
  cf := some (fileOf pool2 8 #[] #[{ accessFlags := 8, nameIndex := 46, descriptorIndex := 47, attributes := #[] }, { accessFlags := 8, nameIndex := 50, descriptorIndex := 51, attributes := #[] }] 48 2 #[] #[{ accessFlags := 18, nameIndex := 11, descriptorIndex := 12, attributes := #[] }, { accessFlags := 2, nameIndex := 15, descriptorIndex := 16, attributes := #[] }])
  fields := #[{ name := "words", type := (.array .long), accessFlags := 18, slot := 0, constantValue := 0 }, { name := "position", type := .long, accessFlags := 2, slot := 1, constantValue := 0 }]
  methods := #[k2m0, k2m1]
  instanceTypes := #[(.array .long), .long]
  staticTypes := #[]
  resolved := Array.replicate 55 none
  statics := none }

def pool3 : Array CpInfo := pool [(1, u "java/lang/Cloneable"), (0, .class_ 1), (0, u "java/lang/Object"), (0, .class_ 3)] 3

/-- java/lang/Cloneable -/
def k3 : Class := { plain "java/lang/Cloneable" (some 0) with
  accessFlags := 1537
  interfaces := #[]
  cf := some (fileOf pool3 2 #[] #[] 1537 4 #[] #[])
  fields := #[]
  methods := #[]
  instanceTypes := #[]
  staticTypes := #[]
  resolved := Array.replicate 8 none
  statics := none }

def pool4 : Array CpInfo := pool [(1, u "java/io/Serializable"), (0, .class_ 1), (0, u "java/lang/Object"), (0, .class_ 3)] 3

/-- java/io/Serializable -/
def k4 : Class := { plain "java/io/Serializable" (some 0) with
  accessFlags := 1537
  interfaces := #[]
  cf := some (fileOf pool4 2 #[] #[] 1537 4 #[] #[])
  fields := #[]
  methods := #[]
  instanceTypes := #[]
  staticTypes := #[]
  resolved := Array.replicate 8 none
  statics := none }

/-- the primitive byte -/
def k5 : Class := { plain "byte" none with kind := .primitive 'B', accessFlags := 0x411 }
/-- [B -/
def k6 : Class := { plain "[B" (some 0) with kind := .array 5 .byte, interfaces := #[3, 4], accessFlags := 1041 }

/-- the primitive int -/
def k7 : Class := { plain "int" none with kind := .primitive 'I', accessFlags := 0x411 }
/-- [I -/
def k8 : Class := { plain "[I" (some 0) with kind := .array 7 .int, interfaces := #[3, 4], accessFlags := 1041 }

/-- the primitive long -/
def k9 : Class := { plain "long" none with kind := .primitive 'J', accessFlags := 0x411 }
/-- [J -/
def k10 : Class := { plain "[J" (some 0) with kind := .array 9 .long, interfaces := #[3, 4], accessFlags := 1041 }

def heap : Heap := #[]
def classes : Array Class := #[k0, k1, k2, k3, k4, k5, k6, k7, k8, k9, k10]
def interned : List (Array UInt16 × Addr) := []
def slotsUsed : Nat := 0
def theMethod : MethodId := ⟨1, 1⟩
def args0 : Array Value := #[.long 5, .long 7, .int 9, .int 3, .int 2]
def aboutOver (below : List Frame) : State where
  vm := { classes := classes, interned := interned.toArray }
  heap := heap
  slotsUsed := slotsUsed
  threads := #[{ frames := .invoking theMethod args0 :: below }]
def below0 : List Frame := [.native { method := ⟨0, 0⟩, args := #[] }]
def about1 : State := aboutOver below0
def p0 : Program := .bare "" "" ""
def e0 : Env := launch0.env 0 0 0
theorem w_frames : about1.frames = Frame.invoking theMethod args0 :: below0 := rfl
set_option maxRecDepth 65536 in
theorem w_args : argsFit about1.vm theMethod args0 = true := by decide +kernel
set_option maxRecDepth 65536 in
theorem w_heap : heapFits about1 = true := by decide +kernel
set_option maxRecDepth 65536 in
theorem w_runnable : about1.curStatus? = some .runnable := by decide +kernel
set_option maxRecDepth 65536 in
theorem w_alone : about1.alone = true := by decide +kernel
set_option maxRecDepth 65536 in
theorem w_named : about1.methodNamed? x = some theMethod := by decide +kernel
set_option maxRecDepth 65536 in
theorem w_hears : about1.hears theMethod below0 = true := by decide +kernel
set_option maxRecDepth 65536 in
theorem w_ripe : about1.ripe theMethod args0 below0 = true := by decide +kernel
theorem w_running : about1.status = .running := rfl
set_option maxRecDepth 65536 in
theorem w_room : about1.hasRoom e0.platform room_1 = true :=
  launch0.hasRoom_least _ room_1 (by decide +kernel) (by decide +kernel) (by decide +kernel) (by decide +kernel) (by decide +kernel) (by decide +kernel)
theorem allAtoms_all (ts : List Jvm.Cond) (a : Array Jvm.Value) (st : Jvm.State) : (allAtoms ts).before a st = ts.all (fun c => c.before a st) := by
  induction ts with
  | nil => rfl
  | cons c t ih =>
    show (Jvm.Cond.and c (allAtoms t)).before a st = _
    rw [Jvm.Cond.before_and, ih, List.all_cons]
def words1 : List Jvm.Cond := Jvm.Cond.code x code maxLocals ret :: tables_1
/-- a 'code' word, met by the world's own term for the bytes: nothing is compared byte by byte -/
theorem code_word {y : MethodName} {bytes : ByteArray} {mx : Nat} {rt : Option FieldType} {a : Array Value} {s : State} {m : MethodId} {meth : Method} {c : Code} (h1 : s.methodNamed? y = some m) (h2 : s.vm.method? m = some meth) (h3 : meth.code = some c) (h4 : c.code = bytes)
    (h5 : (c.maxLocals == mx && c.exceptionTable.isEmpty && decide (c.maxStack ≤ mostOperands) && decide (meth.sig.returnType = rt) && !meth.locks && decide (parseMethodDescriptor y.desc = some meth.sig)) = true) : (Jvm.Cond.code y bytes mx rt).before a s = true := by
  simp only [Bool.and_eq_true, beq_iff_eq, Bool.not_eq_true', decide_eq_true_eq] at h5
  obtain ⟨⟨⟨⟨⟨g1, g2⟩, g3⟩, g4⟩, g5⟩, g6⟩ := h5
  simp [Cond.before, Cond.holds, Cond.value, h1, h2, h3, h4, g1, g2, g3, g4, g5, g6]
def isCode : Jvm.Cond → Bool
  | .code _ _ _ _ => true
  | _ => false
theorem all_split {L : List Jvm.Cond} {P : Jvm.Cond → Bool} (h1 : L.all (fun c => isCode c || P c) = true) (h2 : ∀ c ∈ L.filter isCode, P c = true) : L.all P = true := by
  refine List.all_eq_true.mpr fun c hc => ?_
  have h := List.all_eq_true.mp h1 c hc
  rcases Bool.eq_false_or_eq_true (isCode c) with hi | hi
  · exact h2 c (List.mem_filter.mpr ⟨hc, hi⟩)
  · simpa [hi] using h
set_option maxRecDepth 65536 in
theorem w_c0 : (Jvm.Cond.code x code maxLocals ret).before args0 about1 = true := code_word (m := ⟨1, 1⟩) (meth := k1m1) (c := k1c1) (by decide +kernel) rfl rfl rfl (by decide +kernel)
set_option maxRecDepth 65536 in
theorem w_c1 : (Jvm.Cond.code ({ cls := "com/example/nodewell/nodewell/store/BitCursor", name := "toBytes", desc := "([JJ)[B" } : Jvm.MethodName) prog_43_method_8_code (5 : Nat) (Option.some (Jvm.ClassFile.FieldType.array Jvm.ClassFile.FieldType.byte))).before args0 about1 = true := code_word (m := ⟨2, 0⟩) (meth := k2m0) (c := k2c0) (by decide +kernel) rfl rfl rfl (by decide +kernel)
set_option maxRecDepth 65536 in
theorem w_c2 : (Jvm.Cond.code ({ cls := "com/example/nodewell/nodewell/store/BitCursor", name := "fromBytes", desc := "([B)[J" } : Jvm.MethodName) prog_43_method_9_code (3 : Nat) (Option.some (Jvm.ClassFile.FieldType.array Jvm.ClassFile.FieldType.long))).before args0 about1 = true := code_word (m := ⟨2, 1⟩) (meth := k2m1) (c := k2c1) (by decide +kernel) rfl rfl rfl (by decide +kernel)
def codes1 : List Jvm.Cond := [Jvm.Cond.code x code maxLocals ret, Jvm.Cond.code ({ cls := "com/example/nodewell/nodewell/store/BitCursor", name := "toBytes", desc := "([JJ)[B" } : Jvm.MethodName) prog_43_method_8_code (5 : Nat) (Option.some (Jvm.ClassFile.FieldType.array Jvm.ClassFile.FieldType.byte)), Jvm.Cond.code ({ cls := "com/example/nodewell/nodewell/store/BitCursor", name := "fromBytes", desc := "([B)[J" } : Jvm.MethodName) prog_43_method_9_code (3 : Nat) (Option.some (Jvm.ClassFile.FieldType.array Jvm.ClassFile.FieldType.long))]
set_option maxRecDepth 65536 in
theorem codes_eq : words1.filter isCode = codes1 := rfl
theorem w_codes : ∀ c ∈ words1.filter isCode, c.before args0 about1 = true := by
  rw [codes_eq]
  intro c hc
  simp only [codes1, List.mem_cons, List.not_mem_nil, or_false] at hc
  rcases hc with rfl | rfl | rfl
  · exact w_c0
  · exact w_c1
  · exact w_c2
set_option maxRecDepth 65536 in
theorem w_t1 : words1.all (fun c => isCode c || c.before args0 about1) = true := by decide +kernel
theorem w_tables : (allAtoms (Jvm.Cond.code x code maxLocals ret :: tables_1)).before args0 about1 = true := by
  rw [allAtoms_all]
  show words1.all (fun c => c.before args0 about1) = true
  refine all_split ?_ w_codes
  rw [w_t1]
set_option maxRecDepth 65536 in
theorem w_case : (Jvm.Cond.and given_1 narrow_1).before args0 about1 = true := by decide +kernel
theorem w_applies : (headSpec (Jvm.Cond.code x code maxLocals ret :: tables_1) room_1).applies x e0.platform about1 = true :=
  (Spec.applies_iff w_frames).mpr ⟨w_running, w_runnable, w_alone, w_named, w_hears, w_ripe, w_room, w_tables⟩
theorem atStart : AtStart classFile x code maxLocals ret World_1 tables_1 room_1 Calls_1 rest_1 Pre_1 launch0 p0 e0 about1 theMethod args0 below0 :=
  ⟨lists_1, trivial, launch0.admits_env _ _ _, launch0.least_env, fairChoices_fair.cas, fairChoices_fair.clock, w_frames, w_args, w_heap, w_applies, trivial, trivial, w_case⟩
end start1
theorem witness_1 : WitnessClaimed_1 := ⟨start1.p0, start1.e0, start1.about1, start1.theMethod, start1.args0, start1.below0, start1.atStart⟩
end Jvm.Pilot.@@N@@
