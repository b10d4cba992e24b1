import PyProof.Rows.All
import Wide.All
import OpenK.AllK
import Wide.FinOn
import Open.Tops
import PySem.Challenge.RW_pg0236_01
set_option Elab.async false
-- Head
open PySem PySem.W PyProof.Rows
namespace Mine
/-- the statements of the text, each a name of its own -/
def bd : List Stmt := PySem.Challenge.pw_pg0236_01.main.body
def st0 : Stmt := bd.getD 0 default
def st1 : Stmt := bd.getD 1 default
def st2 : Stmt := bd.getD 2 default
def st3 : Stmt := bd.getD 3 default
def st4 : Stmt := bd.getD 4 default
def st5 : Stmt := bd.getD 5 default
def st6 : Stmt := bd.getD 6 default
def st7 : Stmt := bd.getD 7 default
def st8 : Stmt := bd.getD 8 default
def st9 : Stmt := bd.getD 9 default
def st10 : Stmt := bd.getD 10 default
def st11 : Stmt := bd.getD 11 default
def st12 : Stmt := bd.getD 12 default
def st13 : Stmt := bd.getD 13 default
def st14 : Stmt := bd.getD 14 default
def st15 : Stmt := bd.getD 15 default
def st16 : Stmt := bd.getD 16 default
def st17 : Stmt := bd.getD 17 default
def st18 : Stmt := bd.getD 18 default
def st19 : Stmt := bd.getD 19 default
def st20 : Stmt := bd.getD 20 default
def st21 : Stmt := bd.getD 21 default
def st22 : Stmt := bd.getD 22 default
def st23 : Stmt := bd.getD 23 default
def st24 : Stmt := bd.getD 24 default
def st25 : Stmt := bd.getD 25 default
def pg : Program := { PySem.Challenge.pw_pg0236_01 with main := { PySem.Challenge.pw_pg0236_01.main with body := [st0, st1, st2, st3, st4, st5, st6, st7, st8, st9, st10, st11, st12, st13, st14, st15, st16, st17, st18, st19, st20, st21, st22, st23, st24, st25] } }
def rl : OpenLaw := { PySem.Challenge.rw_pg0236_01 with prog := pg }
set_option maxRecDepth 100000 in
set_option maxHeartbeats 8000000 in
open_shared sh for Mine.pg leaving 0
/-- the objects that the proof leans on, by address -/
noncomputable def K : Params → Frag := fun P => (nat_lit 2, PySem.W.boot_o_2 P) :: (nat_lit 3, Mine.sh.o_137 P) :: (nat_lit 15, Mine.sh.o_7 P) :: (nat_lit 20, Mine.sh.o_12 P) :: (nat_lit 21, Mine.sh.o_13 P) :: (nat_lit 27, Mine.sh.o_19 P) :: (nat_lit 28, Mine.sh.o_20 P) :: (nat_lit 29, Mine.sh.o_21 P) :: (nat_lit 31, Mine.sh.o_23 P) :: (nat_lit 32, Mine.sh.o_24 P) :: (nat_lit 34, Mine.sh.o_26 P) :: (nat_lit 35, Mine.sh.o_27 P) :: (nat_lit 36, Mine.sh.o_28 P) :: (nat_lit 38, Mine.sh.o_30 P) :: (nat_lit 39, Mine.sh.o_31 P) :: (nat_lit 41, Mine.sh.o_33 P) :: (nat_lit 42, Mine.sh.o_34 P) :: (nat_lit 43, Mine.sh.o_35 P) :: (nat_lit 48, Mine.sh.o_40 P) :: (nat_lit 49, Mine.sh.o_41 P) :: (nat_lit 55, Mine.sh.o_47 P) :: (nat_lit 56, Mine.sh.o_48 P) :: (nat_lit 62, Mine.sh.o_54 P) :: (nat_lit 63, Mine.sh.o_55 P) :: (nat_lit 69, Mine.sh.o_61 P) :: (nat_lit 70, Mine.sh.o_62 P) :: (nat_lit 76, Mine.sh.o_68 P) :: (nat_lit 77, Mine.sh.o_69 P) :: (nat_lit 83, Mine.sh.o_75 P) :: (nat_lit 84, Mine.sh.o_76 P) :: (nat_lit 90, Mine.sh.o_82 P) :: (nat_lit 91, Mine.sh.o_83 P) :: (nat_lit 99, Mine.sh.o_94 P) :: (nat_lit 101, Mine.sh.o_96 P) :: (nat_lit 102, Mine.sh.o_97 P) :: (nat_lit 104, Mine.sh.o_99 P) :: (nat_lit 105, Mine.sh.o_100 P) :: (nat_lit 106, Mine.sh.o_101 P) :: (nat_lit 108, Mine.sh.o_103 P) :: (nat_lit 109, Mine.sh.o_104 P) :: (nat_lit 111, Mine.sh.o_106 P) :: (nat_lit 112, Mine.sh.o_107 P) :: (nat_lit 113, Mine.sh.o_108 P) :: (nat_lit 114, Mine.sh.o_109 P) :: (nat_lit 115, Mine.sh.o_110 P) :: (nat_lit 116, Mine.sh.o_111 P) :: (nat_lit 117, Mine.sh.o_112 P) :: (nat_lit 125, Mine.sh.o_120 P) :: (nat_lit 126, Mine.sh.o_121 P) :: (nat_lit 132, Mine.sh.o_127 P) :: (nat_lit 133, Mine.sh.o_128 P) :: (nat_lit 139, Mine.sh.o_134 P) :: (nat_lit 140, Mine.sh.o_135 P) :: (nat_lit 146, Mine.sh.o_144 P) :: (nat_lit 147, Mine.sh.o_145 P) :: (nat_lit 153, Mine.sh.o_151 P) :: (nat_lit 154, Mine.sh.o_152 P) :: (nat_lit 160, Mine.sh.o_158 P) :: (nat_lit 161, Mine.sh.o_159 P) :: (nat_lit 167, Mine.sh.o_165 P) :: (nat_lit 168, Mine.sh.o_166 P) :: (nat_lit 174, Mine.sh.o_172 P) :: (nat_lit 175, Mine.sh.o_173 P) :: (nat_lit 179, Mine.sh.o_177 P) :: (nat_lit 180, Mine.sh.o_178 P) :: []
end Mine

-- A1
set_option compiler.extract_closed false
set_option genSizeOf false
set_option genSizeOfSpec false
set_option genInjectivity false
namespace Mine
open PySem PySem.W PySem.Calls PyProof.Rows

noncomputable abbrev PG : Program := Mine.pg
noncomputable abbrev KI (w : World) := intKind PG w

/-- abstract values: tuples and frozen int-to-int dicts are pure -/
inductive V where
  | int (i : Int)
  | raw (v : Value)
  | tup (vs : List V)
  | dct (kvs : List (Int × Int))
noncomputable abbrev V.ref (a : Addr) : V := .raw (.ref a)
noncomputable abbrev V.non : V := .raw .none
noncomputable abbrev V.bool (b : Bool) : V := .raw (.bool b)

noncomputable def DR : List (Int × Int) → List (Int × Value) → Prop
  | [], c => c = []
  | p :: r, c => ∃ t c', c = (p.1, Value.int p.2 t) :: c' ∧ DR r c'

mutual
noncomputable def VR (w : World) (g : Heap) : V → Value → Prop
  | .int i, v => ∃ t, v = .int i t
  | .raw x, v => v = x
  | .tup vs, v => ∃ a cvs, v = .ref a ∧ IsTup g a (List.toArray cvs) ∧ VRs w g vs cvs
  | .dct kvs, v => ∃ a cvs, v = .ref a ∧ 3 < a ∧ g.DictOf (KI w) a cvs ∧ DR kvs cvs
noncomputable def VRs (w : World) (g : Heap) : List V → List Value → Prop
  | [], c => c = []
  | v :: vs, c => ∃ x r, c = x :: r ∧ VR w g v x ∧ VRs w g vs r
end

mutual
theorem VR.mono {w : World} {g g' : Heap} (hk : g.StaysIn g') : ∀ {v : V} {c : Value}, VR w g v c → VR w g' v c
  | .int _, _, h => h
  | .raw _, _, h => h
  | .tup _, _, ⟨a, cvs, e, t, r⟩ => ⟨a, cvs, e, t.keeps hk, VRs.mono hk r⟩
  | .dct _, _, ⟨a, cvs, e, z, t, r⟩ => ⟨a, cvs, e, z, t.keep hk, r⟩
theorem VRs.mono {w : World} {g g' : Heap} (hk : g.StaysIn g') : ∀ {v : List V} {c : List Value}, VRs w g v c → VRs w g' v c
  | [], _, h => h
  | _ :: _, _, ⟨x, r, e, hx, hr⟩ => ⟨x, r, e, VR.mono hk hx, VRs.mono hk hr⟩
end

theorem VR.int_iff {w g i c} : VR w g (.int i) c ↔ ∃ t, c = .int i t := Iff.rfl
theorem VR.raw_iff {w g x c} : VR w g (.raw x) c ↔ c = x := Iff.rfl
theorem VR.tup_iff {w g vs c} : VR w g (.tup vs) c ↔ ∃ a cvs, c = .ref a ∧ IsTup g a (List.toArray cvs) ∧ VRs w g vs cvs := Iff.rfl
theorem VR.dct_iff {w g kvs c} : VR w g (.dct kvs) c ↔ ∃ a cvs, c = .ref a ∧ 3 < a ∧ g.DictOf (KI w) a cvs ∧ DR kvs cvs := Iff.rfl
theorem VRs.nil_iff {w g c} : VRs w g [] c ↔ c = [] := Iff.rfl
theorem VRs.cons_iff {w g v vs c} : VRs w g (v :: vs) c ↔ ∃ x r, c = x :: r ∧ VR w g v x ∧ VRs w g vs r := Iff.rfl
theorem VRs.length {w g} : ∀ {vs : List V} {cs : List Value}, VRs w g vs cs → cs.length = vs.length
  | [], _, h => by rw [VRs.nil_iff.mp h]; rfl
  | _ :: _, _, h => by obtain ⟨x, r, rfl, _, hr⟩ := VRs.cons_iff.mp h; rw [List.length_cons, List.length_cons, VRs.length hr]
theorem VRs.get {w g} : ∀ {vs : List V} {cs : List Value} (_ : VRs w g vs cs) {i : Nat} {v : V}, vs[i]? = some v → ∃ c, cs[i]? = some c ∧ VR w g v c
  | [], _, _, _, _, e => by cases e
  | _ :: _, _, h, 0, _, e => by obtain ⟨x, r, rfl, hx, _⟩ := VRs.cons_iff.mp h; cases e; exact ⟨x, rfl, hx⟩
  | _ :: _, _, h, i + 1, _, e => by obtain ⟨x, r, rfl, _, hr⟩ := VRs.cons_iff.mp h; exact VRs.get hr e
theorem VRs.get_none {w g} {vs : List V} {cs : List Value} (h : VRs w g vs cs) {i : Nat} (e : vs[i]? = none) : cs[i]? = none := by
  rw [List.getElem?_eq_none_iff] at e ⊢; rw [h.length]; exact e
theorem VRs.append {w g} : ∀ {vs us : List V} {cs ds : List Value}, VRs w g vs cs → VRs w g us ds → VRs w g (vs ++ us) (cs ++ ds)
  | [], _, _, _, h, k => by rw [VRs.nil_iff.mp h]; exact k
  | _ :: _, _, _, _, h, k => by obtain ⟨x, r, rfl, hx, hr⟩ := VRs.cons_iff.mp h; exact VRs.cons_iff.mpr ⟨x, _, rfl, hx, VRs.append hr k⟩
theorem VRs.set {w g} : ∀ {vs : List V} {cs : List Value} {i : Nat} {v : V} {c : Value}, VRs w g vs cs → VR w g v c → VRs w g (vs.set i v) (cs.set i c)
  | [], _, _, _, _, h, _ => by rw [VRs.nil_iff.mp h]; exact VRs.nil_iff.mpr rfl
  | _ :: _, _, 0, _, _, h, k => by obtain ⟨x, r, rfl, _, hr⟩ := VRs.cons_iff.mp h; exact VRs.cons_iff.mpr ⟨_, r, rfl, k, hr⟩
  | _ :: _, _, i + 1, _, _, h, k => by obtain ⟨x, r, rfl, hx, hr⟩ := VRs.cons_iff.mp h; exact VRs.cons_iff.mpr ⟨x, _, rfl, hx, VRs.set hr k⟩
theorem VRs.reverse {w g} : ∀ {vs : List V} {cs : List Value}, VRs w g vs cs → VRs w g vs.reverse cs.reverse
  | [], _, h => by rw [VRs.nil_iff.mp h]; exact VRs.nil_iff.mpr rfl
  | _ :: _, _, h => by
    obtain ⟨x, r, rfl, hx, hr⟩ := VRs.cons_iff.mp h
    rw [List.reverse_cons, List.reverse_cons]
    exact VRs.append (VRs.reverse hr) (VRs.cons_iff.mpr ⟨x, [], rfl, hx, VRs.nil_iff.mpr rfl⟩)

/-- key by key -/
noncomputable def KR (w : World) (g : Heap) : List (Int × V) → List (Int × Value) → Prop
  | [], c => c = []
  | p :: r, c => ∃ x c', c = (p.1, x) :: c' ∧ VR w g p.2 x ∧ KR w g r c'
theorem KR.mono {w : World} {g g' : Heap} (hk : g.StaysIn g') : ∀ {v : List (Int × V)} {c : List (Int × Value)}, KR w g v c → KR w g' v c
  | [], _, h => h
  | _ :: _, _, ⟨x, r, e, hx, hr⟩ => ⟨x, r, e, hx.mono hk, KR.mono hk hr⟩

/-- abstract objects that the call owns -/
inductive O where
  | raw (o : Obj)
  | frame (ks : List (Str × V))
  | cell (v : V)
  | nocell
  | list (vs : List V)
  | dict (kvs : List (Int × V))
  | such (p : Obj → Prop)
  | mon (p : Heap → Obj → Prop) (hp : ∀ g g' o, g.StaysIn g' → p g o → p g' o)
noncomputable def OR (w : World) (g : Heap) : O → Obj → Prop
  | .raw o', o => o = o'
  | .frame ks, o => ∃ es ep, o.data = .dict es ep ∧ StrKeys es ∧ ∀ x v, ks.lookup x = some v → ∃ c, nsFind es x = some c ∧ VR w g v c
  | .cell v, o => ∃ c, o.data = .cell (some c) ∧ VR w g v c
  | .nocell, o => ∃ c, o.data = .cell c
  | .list vs, o => ∃ cvs n, o = listOf (List.toArray cvs) n ∧ VRs w g vs cvs
  | .dict kvs, o => ∃ cvs, o.IsDictOf (KI w) cvs ∧ KR w g kvs cvs
  | .such p, o => p o
  | .mon p _, o => p g o
theorem OR.mono {w : World} {g g' : Heap} (hk : g.StaysIn g') {x : O} {o : Obj} (h : OR w g x o) : OR w g' x o := by
  cases x with
  | raw o' => exact h
  | frame ks => obtain ⟨es, ep, a, b, c⟩ := h; exact ⟨es, ep, a, b, fun x v e => let ⟨c', p, q⟩ := c x v e; ⟨c', p, q.mono hk⟩⟩
  | cell v => obtain ⟨c, a, b⟩ := h; exact ⟨c, a, b.mono hk⟩
  | nocell => exact h
  | list vs => obtain ⟨cvs, n, a, b⟩ := h; exact ⟨cvs, n, a, b.mono hk⟩
  | dict kvs => obtain ⟨cvs, a, b⟩ := h; exact ⟨cvs, a, b.mono hk⟩
  | such p => exact h
  | mon p hp => exact hp _ _ _ hk h

noncomputable abbrev Own := List (Addr × O)

/-- the program's own objects, the globals and the built-ins, in the frozen part -/
noncomputable def Base (w : World) (g : Heap) : Prop := (Mine.K w.params).In g ∧ ∃ p loose mean mg mb, Top p loose mean mg mb g ∧ CodeAll [(41, 37), (34, 30)] g
theorem CodeAll.mono {g g' : Heap} (hk : g.StaysIn g') : ∀ {l : List (Addr × Addr)}, CodeAll l g → CodeAll l g'
  | [], _ => trivial
  | _ :: _, h => ⟨h.1.keeps hk, CodeAll.mono hk h.2⟩
theorem Base.mono {w : World} {g g' : Heap} (hk : g.StaysIn g') (h : Base w g) : Base w g' :=
  let ⟨x, p, l, m, a, b, t, c⟩ := h; ⟨x.keeps hk, p, l, m, a, b, t.keeps hk, CodeAll.mono hk c⟩

structure Sim (w : World) (own : Own) (h g : Heap) : Prop where
  base : Base w g
  sub : g.StaysIn h
  ent : ∀ p ∈ own, 3 < p.1 ∧ g.get? p.1 = none ∧ ∃ o, h.get? p.1 = some o ∧ OR w g p.2 o
  nd : (own.map (·.1)).Nodup

theorem StaysIn.refl (g : Heap) : g.StaysIn g := fun _ _ e => e
theorem StaysIn.trans {a b c : Heap} (x : a.StaysIn b) (y : b.StaysIn c) : a.StaysIn c := fun _ _ e => y _ _ (x _ _ e)

/-- the frozen part may be all that is not owned -/
theorem Sim.full {w own h g} (S : Sim w own h g) : Sim w own h (hideAll h (own.map (·.1))) ∧ g.StaysIn (hideAll h (own.map (·.1))) := by
  have k : g.StaysIn (hideAll h (own.map (·.1))) := fun b o e => hideAll_get _ (S.sub b o e) fun q => by
    obtain ⟨p, hp, rfl⟩ := List.mem_map.mp q
    rw [(S.ent p hp).2.1] at e; cases e
  exact ⟨⟨S.base.mono k, fun b o e => of_hideAll _ e, fun p hp => ⟨(S.ent p hp).1, hideAll_none _ (List.mem_map_of_mem hp), let ⟨o, a, b⟩ := (S.ent p hp).2.2; ⟨o, a, b.mono k⟩⟩, S.nd⟩, k⟩

theorem Sim.lt {w own h g} (S : Sim w own h g) {p} (hp : p ∈ own) : p.1 < h.objs.size := let ⟨_, _, o, a, _⟩ := S.ent p hp; Heap.lt_size a

/-- more objects -/
theorem Sim.ext {w own h h' g} (S : Sim w own h g) (hk : h.StaysIn h') : Sim w own h' g :=
  ⟨S.base, fun b o e => hk b o (S.sub b o e), fun p hp => ⟨(S.ent p hp).1, (S.ent p hp).2.1, let ⟨o, a, b⟩ := (S.ent p hp).2.2; ⟨o, hk _ _ a, b⟩⟩, S.nd⟩

theorem Sim.grow {w own h h'} {g g' : Heap} (S : Sim w own h g) (hg : g.StaysIn g') (hs : g'.StaysIn h') (hk : ∀ p ∈ own, ∀ o, h.get? p.1 = some o → h'.get? p.1 = some o) (hn : ∀ p ∈ own, g'.get? p.1 = none) : Sim w own h' g' :=
  ⟨S.base.mono hg, hs, fun p hp => ⟨(S.ent p hp).1, hn p hp, let ⟨o, a, b⟩ := (S.ent p hp).2.2; ⟨o, hk p hp _ a, b.mono hg⟩⟩, S.nd⟩

/-- a new object, frozen at once -/
theorem Sim.pushF {w own h g} (S : Sim w own h g) (o : Obj) (hf : o.isFreed = false := by rfl) :
    ∃ g', Sim w own (h.push o) g' ∧ g.StaysIn g' ∧ g'.get? h.objs.size = some o := by
  have S1 := (S.ext (h' := h.push o) fun b x e => Heap.get?_push_of_some o e).full
  exact ⟨_, S1.1, S1.2, hideAll_get _ (Heap.get?_push_size _ hf) fun q => by
    obtain ⟨p, hp, e⟩ := List.mem_map.mp q
    exact absurd (S.lt hp) (e ▸ Nat.lt_irrefl _)⟩

theorem Sim.three {w own h g} (S : Sim w own h g) : 3 < h.objs.size := by
  obtain ⟨_, _, _, _, _, _, T, _⟩ := S.base
  exact Nat.lt_of_le_of_lt (Nat.le_refl 3) ((T.g.keeps S.sub).lt)

theorem Sim.fresh_none {w own h g} (S : Sim w own h g) : g.get? h.objs.size = none := by
  cases q : g.get? h.objs.size with
  | none => rfl
  | some o => exact absurd (Heap.lt_size (S.sub _ _ q)) (Nat.lt_irrefl _)

theorem Sim.perm {w own own' h g} (S : Sim w own h g) (p : own.Perm own') : Sim w own' h g :=
  ⟨S.base, S.sub, fun x hx => S.ent x (p.mem_iff.mpr hx), (p.map _).nodup_iff.mp S.nd⟩

theorem Sim.sublist {w own own' h g} (S : Sim w own h g) (p : List.Sublist own' own) : Sim w own' h g :=
  ⟨S.base, S.sub, fun x hx => S.ent x (p.subset hx), (p.map _).nodup S.nd⟩

/-- a new owned object in the front -/
theorem Sim.cons {w own h g a x} (S : Sim w own h g) (ha : 3 < a) (hg : g.get? a = none) {o : Obj} (ho : h.get? a = some o) (r : OR w g x o) (hn : a ∉ own.map (·.1)) : Sim w ((a, x) :: own) h g :=
  ⟨S.base, S.sub, fun p hp => by
    rcases List.mem_cons.mp hp with rfl | hp
    · exact ⟨ha, hg, o, ho, r⟩
    · exact S.ent p hp, List.nodup_cons.mpr ⟨hn, S.nd⟩⟩

theorem Sim.pushO {w own h g} (S : Sim w own h g) (o : Obj) {x : O} (r : OR w g x o) (hf : o.isFreed = false := by rfl) : Sim w ((h.objs.size, x) :: own) (h.push o) g :=
  (S.ext (h' := h.push o) fun b x e => Heap.get?_push_of_some o e).cons S.three S.fresh_none (Heap.get?_push_size _ hf) r fun q => by
    obtain ⟨p, hp, e⟩ := List.mem_map.mp q
    exact absurd (S.lt hp) (e ▸ Nat.lt_irrefl _)

/-- one owned object turned -/
theorem Sim.turn {w pre post h h' g a x y} (S : Sim w (pre ++ (a, x) :: post) h g) (hs : Heap.SameBut a h h') {o : Obj} (ho : h'.get? a = some o) (r : OR w g y o) : Sim w (pre ++ (a, y) :: post) h' g := by
  have hm : (a, x) ∈ pre ++ (a, x) :: post := by simp
  refine ⟨S.base, fun b o e => ?_, fun p hp => ?_, by simpa using S.nd⟩
  · rw [hs.2 b (fun q => by rw [q, (S.ent _ hm).2.1] at e; cases e)]; exact S.sub b o e
  · by_cases q : p.1 = a
    · have hp' : p = (a, y) := by
        have nd := S.nd
        rw [List.map_append, List.map_cons, List.nodup_append, List.nodup_cons] at nd
        rcases List.mem_append.mp hp with hp | hp
        · exact absurd q (nd.2.2 _ (List.mem_map_of_mem hp) a (.head _))
        · rcases List.mem_cons.mp hp with hp | hp
          · exact hp
          · have z : p.1 ∈ post.map (·.1) := List.mem_map_of_mem hp
            rw [q] at z
            exact absurd z nd.2.1.1
      subst hp'
      exact ⟨(S.ent _ hm).1, (S.ent _ hm).2.1, o, ho, r⟩
    · have hp' : p ∈ pre ++ (a, x) :: post := by
        rcases List.mem_append.mp hp with hp | hp
        · exact List.mem_append_left _ hp
        · rcases List.mem_cons.mp hp with rfl | hp
          · exact absurd rfl q
          · exact List.mem_append_right _ (.tail _ hp)
      obtain ⟨a1, a2, o', a3, a4⟩ := S.ent p hp'
      exact ⟨a1, a2, o', (hs.2 _ q).trans a3, a4⟩

/-- an owned object is frozen -/
theorem Sim.freeze {w pre post h g a x} (S : Sim w (pre ++ (a, x) :: post) h g) : ∃ g' o, Sim w (pre ++ post) h g' ∧ g.StaysIn g' ∧ g'.get? a = some o ∧ h.get? a = some o ∧ OR w g x o := by
  obtain ⟨_, _, o, ho, r⟩ := S.ent (a, x) (by simp)
  have S1 := S.sublist (own' := pre ++ post) (List.Sublist.append_left (List.sublist_cons_self _ _) _)
  refine ⟨_, o, S1.full.1, S1.full.2, hideAll_get _ ho fun q => ?_, ho, r⟩
  have nd := S.nd
  rw [List.map_append, List.map_cons, List.nodup_append, List.nodup_cons] at nd
  rw [List.map_append, List.mem_append] at q
  rcases q with q | q
  · exact nd.2.2 _ q a (.head _) rfl
  · exact nd.2.1.1 q

/-- where an entry lies; what the ledger is when it is turned -/
inductive At (a : Addr) (x y : O) : Own → Own → Prop
  | head {r} : At a x y ((a, x) :: r) ((a, y) :: r)
  | tail {p r r'} : At a x y r r' → At a x y (p :: r) (p :: r')
theorem At.split {a x y} : ∀ {l l' : Own}, At a x y l l' → ∃ pre post, l = pre ++ (a, x) :: post ∧ l' = pre ++ (a, y) :: post
  | _, _, .head => ⟨[], _, rfl, rfl⟩
  | _, _, .tail (p := p) h => let ⟨pre, post, e1, e2⟩ := h.split; ⟨p :: pre, post, by rw [e1]; rfl, by rw [e2]; rfl⟩
theorem At.append {a x y} {l l' : Own} (h : At a x y l l') (r : Own) : At a x y (l ++ r) (l' ++ r) := by
  induction h with
  | head => exact .head
  | tail _ ih => exact .tail ih
theorem Sim.at {w own own' h g a x y} (S : Sim w own h g) (m : At a x y own own') : ∃ o, h.get? a = some o ∧ OR w g x o := by
  obtain ⟨pre, post, rfl, rfl⟩ := m.split
  exact (S.ent (a, x) (by simp)).2.2
theorem Sim.turnAt {w own own' h h' g a x y} (S : Sim w own h g) (m : At a x y own own') (hs : Heap.SameBut a h h') {o : Obj} (ho : h'.get? a = some o) (r : OR w g y o) : Sim w own' h' g := by
  obtain ⟨pre, post, rfl, rfl⟩ := m.split
  exact S.turn hs ho r
end Mine

-- A2
set_option genSizeOf false
set_option genSizeOfSpec false
set_option genInjectivity false
namespace Mine
open PySem PySem.W PySem.Calls PyProof.Rows

noncomputable def Ok (A : Around) (k : Nat) : Prop := A.handled = none ∧ A.depth + k < recursionLimit ∧ A.units + 8 * k + 16 < cLine

theorem Ok.le {A : Around} {k k' : Nat} (h : Ok A k') (e : k ≤ k') : Ok A k := ⟨h.1, by have := h.2.1; omega, by have := h.2.2; omega⟩
theorem Ok.in1 {A : Around} {k : Nat} (h : Ok A (k + 1)) : Ok A.in1 k := ⟨h.1, by have := h.2.1; show A.depth + k < _; omega, by have := h.2.2; show A.units + 1 + 8 * k + 16 < _; omega⟩
theorem Ok.deeper {A : Around} {k : Nat} {env : Env} (h : Ok A (k + 1)) : Ok (A.deeper env) k := ⟨h.1, by have := h.2.1; show A.depth + 1 + k < _; omega, by have := h.2.2; show A.units + 3 + 8 * k + 16 < _; omega⟩

/-- the weakest precondition over abstract states, framed -/
noncomputable def Wg {γ α β : Type} (w : World) (k : Nat) (In : Heap → γ → Prop) (t : γ → Sem α) (Rel : Heap → β → α → Prop) (own : Own) (P : β → Own → Prop) : Prop :=
  ∀ (A : Around) (g : Heap) (s : Shared) (rest : Own) (Q : α → Shared → Prop) (E : Value → Shared → Prop) (c : γ), Ok A k → Sim w (own ++ rest) s.heap g → In g c →
    (∀ a h' tk g' b own', P b own' → Sim w (own' ++ rest) h' g' → g.StaysIn g' → Rel g' b a → Q a { s with heap := h', toks := tk }) →
    wpAny (model PG w) A (t c) Q E s

noncomputable abbrev BR (_ : Heap) (b a : Bool) : Prop := a = b
noncomputable abbrev UR (_ : Heap) (_ : Unit) (_ : Unit) : Prop := True
inductive FV where
  | next | brk | cont
  | ret (v : V)
noncomputable def FR (w : World) (g : Heap) : FV → Flow → Prop
  | .next, f => f = .next
  | .brk, f => f = .brk
  | .cont, f => f = .cont
  | .ret v, f => ∃ c, f = .ret c ∧ VR w g v c

noncomputable abbrev WE (w : World) (k : Nat) (env : Env) (e : Expr) : Own → (V → Own → Prop) → Prop := Wg (γ := Unit) w k (fun _ _ => True) (fun _ => eval e env) (VR w)
noncomputable abbrev WB (w : World) (k : Nat) (env : Env) (e : Expr) : Own → (Bool → Own → Prop) → Prop := Wg (γ := Unit) w k (fun _ _ => True) (fun _ => isTrue e env (eval e env)) BR
noncomputable abbrev WS (w : World) (k : Nat) (env : Env) (st : Stmt) : Own → (FV → Own → Prop) → Prop := Wg (γ := Unit) w k (fun _ _ => True) (fun _ => exec st env) (FR w)
noncomputable abbrev WSs (w : World) (k : Nat) (env : Env) (sts : List Stmt) : Own → (FV → Own → Prop) → Prop := Wg (γ := Unit) w k (fun _ _ => True) (fun _ => execs sts env) (FR w)
noncomputable abbrev WEs (w : World) (k : Nat) (env : Env) (pos : Pos) (es : List Expr) : Own → (List V → Own → Prop) → Prop := Wg (γ := Unit) w k (fun _ _ => True) (fun _ => spliced (backTo pos (starEach es env))) (VRs w)
noncomputable abbrev W1 {α β : Type} (w : World) (k : Nat) (v : V) (t : Value → Sem α) (Rel : Heap → β → α → Prop) : Own → (β → Own → Prop) → Prop := Wg w k (fun g c => VR w g v c) t Rel
noncomputable abbrev W2 {α β : Type} (w : World) (k : Nat) (v u : V) (t : Value → Value → Sem α) (Rel : Heap → β → α → Prop) : Own → (β → Own → Prop) → Prop := Wg (γ := Value × Value) w k (fun g c => VR w g v c.1 ∧ VR w g u c.2) (fun c => t c.1 c.2) Rel
noncomputable abbrev W3 {α β : Type} (w : World) (k : Nat) (v u z : V) (t : Value → Value → Value → Sem α) (Rel : Heap → β → α → Prop) : Own → (β → Own → Prop) → Prop := Wg (γ := Value × Value × Value) w k (fun g c => VR w g v c.1 ∧ VR w g u c.2.1 ∧ VR w g z c.2.2) (fun c => t c.1 c.2.1 c.2.2) Rel
noncomputable abbrev WL {α β : Type} (w : World) (k : Nat) (vs : List V) (t : List Value → Sem α) (Rel : Heap → β → α → Prop) : Own → (β → Own → Prop) → Prop := Wg w k (fun g c => VRs w g vs c) t Rel
/-- a call of a value by abstract arguments -/
noncomputable abbrev WC (w : World) (k : Nat) (f : Value) (vs : List V) : Own → (V → Own → Prop) → Prop := WL w k vs (fun cs => call f cs) (VR w)

section
variable {w : World} {k : Nat} {env : Env} {own : Own}

theorem Wg.mono {γ α β : Type} {In : Heap → γ → Prop} {t : γ → Sem α} {Rel : Heap → β → α → Prop} {P P' : β → Own → Prop} (h : Wg w k In t Rel own P) (hp : ∀ b o, P b o → P' b o) : Wg w k In t Rel own P' :=
  fun A g s rest Q E c ok S i K => h A g s rest Q E c ok S i fun a h' tk g' b own' hP => K a h' tk g' b own' (hp _ _ hP)
theorem Wg.le {γ α β : Type} {k' : Nat} {In : Heap → γ → Prop} {t : γ → Sem α} {Rel : Heap → β → α → Prop} {P : β → Own → Prop} (h : Wg w k In t Rel own P) (e : k ≤ k' := by decide) : Wg w k' In t Rel own P :=
  fun A g s rest Q E c ok S i K => h A g s rest Q E c (ok.le e) S i K
/-- what is not needed may be hidden in the rest -/
theorem Wg.frame {γ α β : Type} {In : Heap → γ → Prop} {t : γ → Sem α} {Rel : Heap → β → α → Prop} {P : β → Own → Prop} (more : Own) (h : Wg w k In t Rel own P) : Wg w k In t Rel (own ++ more) (fun b o => ∃ o', o = o' ++ more ∧ P b o') :=
  fun A g s rest Q E c ok S i K => h A g s (more ++ rest) Q E c ok (by rw [← List.append_assoc]; exact S) i fun a h' tk g' b own' hP S' => K a h' tk g' b (own' ++ more) ⟨own', rfl, hP⟩ (by rw [List.append_assoc]; exact S')
theorem Wg.perm {γ α β : Type} {own₀ : Own} {In : Heap → γ → Prop} {t : γ → Sem α} {Rel : Heap → β → α → Prop} {P : β → Own → Prop} (h : Wg w k In t Rel own₀ P) (p : own.Perm own₀) : Wg w k In t Rel own P :=
  fun A g s rest Q E c ok S i K => h A g s rest Q E c ok (S.perm (p.append_right _)) i K
/-- less is owned -/
theorem Wg.drop {γ α β : Type} {own₀ : Own} {In : Heap → γ → Prop} {t : γ → Sem α} {Rel : Heap → β → α → Prop} {P : β → Own → Prop} (h : Wg w k In t Rel own₀ P) (p : List.Sublist own₀ own) : Wg w k In t Rel own P :=
  fun A g s rest Q E c ok S i K => h A g s rest Q E c ok (S.sublist (List.Sublist.append_right p _)) i K

-- constants
theorem we_int {i : Int} {n pos} {P : V → Own → Prop} (h : P (.int i) own) : WE w k env (.Constant (.int i) n pos) own P :=
  fun _ g s _ _ _ _ _ S _ K => wpAny_Constant_int (K _ s.heap _ g _ _ h S (StaysIn.refl _) (VR.int_iff.mpr ⟨_, rfl⟩))
theorem we_none {n pos} {P : V → Own → Prop} (h : P .non own) : WE w k env (.Constant .none n pos) own P :=
  fun _ g s _ _ _ _ _ S _ K => wpAny_Constant_none (K _ s.heap s.toks g _ _ h S (StaysIn.refl _) (VR.raw_iff.mpr rfl))
theorem we_bool {b : Bool} {n pos} {P : V → Own → Prop} (h : P (.bool b) own) : WE w k env (.Constant (.bool b) n pos) own P :=
  fun _ g s _ _ _ _ _ S _ K => wpAny_Constant_bool (K _ s.heap s.toks g _ _ h S (StaysIn.refl _) (VR.raw_iff.mpr rfl))

-- names
theorem frame_ns {g h : Heap} {L : Addr} {ks : List (Str × V)} {o : Obj} (ho : h.get? L = some o) (r : OR w g (.frame ks) o) : ∃ m, h.Ns L m ∧ ∀ x v, ks.lookup x = some v → ∃ c, m x = some c ∧ VR w g v c :=
  let ⟨es, ep, a, b, c⟩ := r; ⟨fun n => nsFind es n, ⟨o, es, ep, ho, a, b, fun _ => rfl⟩, c⟩
theorem wl_local {x : Str} {L : Addr} {ks : List (Str × V)} {v : V} {P : V → Own → Prop} (h : P v ((L, .frame ks) :: own)) (hv : ks.lookup x = some v) (hL : env.locals = L := by rfl)
    (hk : env.scope.kind = .function := by rfl) (hl : env.kindOf x = some .local := by rfl) : Wg (γ := Unit) w k (fun _ _ => True) (fun _ => loadName env x) (VR w) ((L, .frame ks) :: own) P := by
  intro A g s rest Q E _ ok S _ K
  obtain ⟨_, _, o, ho, r⟩ := S.ent (L, .frame ks) (List.mem_cons_self ..)
  obtain ⟨m, hn, hm⟩ := frame_ns ho r
  obtain ⟨c, hc, hr⟩ := hm x v hv
  subst hL
  exact wpAny_loadName_local hk hl hn hc (K c s.heap s.toks g v _ h S (StaysIn.refl _) hr)
theorem we_local {x : Str} {pos} {L : Addr} {ks : List (Str × V)} {v : V} {P : V → Own → Prop} (h : P v ((L, .frame ks) :: own)) (hv : ks.lookup x = some v := by rfl) (hL : env.locals = L := by rfl)
    (hk : env.scope.kind = .function := by rfl) (hl : env.kindOf x = some .local := by rfl) (hd : (x == ("__debug__" : Str)) = false := by decide) : WE w k env (.Name x pos) ((L, .frame ks) :: own) P :=
  fun A g s rest Q E c ok S i K => wpAny_Name (wl_local h hv hL hk hl A g s rest Q E c ok S i K) hd
theorem we_cell {x : Str} {pos} {a : Addr} {v : V} {P : V → Own → Prop} (h : P v own) (hc : env.cells.lookup x = some a) (hm : (a, O.cell v) ∈ own)
    (hk : env.scope.kind = .function := by rfl) (hl : env.kindOf x = some .cell := by rfl) (hd : (x == ("__debug__" : Str)) = false := by decide) : WE w k env (.Name x pos) own P := by
  intro A g s rest Q E _ ok S _ K
  obtain ⟨_, _, o, ho, c, hoc, hr⟩ := S.ent (a, .cell v) (List.mem_append_left _ hm)
  exact wpAny_Name (wpAny_loadName_cell hk hl hc ⟨o, ho, hoc⟩ (K c s.heap s.toks g v _ h S (StaysIn.refl _) hr)) hd
theorem we_free {x : Str} {pos} {a : Addr} {v : V} {P : V → Own → Prop} (h : P v own) (hc : env.cells.lookup x = some a) (hm : (a, O.cell v) ∈ own)
    (hk : env.scope.kind = .function := by rfl) (hl : env.kindOf x = some .free := by rfl) (hd : (x == ("__debug__" : Str)) = false := by decide) (hn : (x == ("__classdict__" : Str)) = false := by decide) : WE w k env (.Name x pos) own P := by
  intro A g s rest Q E _ ok S _ K
  obtain ⟨_, _, o, ho, c, hoc, hr⟩ := S.ent (a, .cell v) (List.mem_append_left _ hm)
  exact wpAny_Name (wpAny_loadName_free hk hl hc ⟨o, ho, hoc⟩ (K c s.heap s.toks g v _ h S (StaysIn.refl _) hr) hn) hd
theorem we_global {x : Str} {pos} {v : Value} {u : V} {P : V → Own → Prop} (h : P u own) (hv : nsIn (Mine.K w.params) mainGlobals x = some (some v)) (hu : ∀ g, VR w g u v) (hG : env.globals = mainGlobals := by rfl)
    (hk : env.scope.kind = .function := by rfl) (hl : env.kindOf x = some .globalImplicit := by rfl) (hd : (x == ("__debug__" : Str)) = false := by decide) : WE w k env (.Name x pos) own P := by
  intro A g s rest Q E _ ok S _ K
  obtain ⟨X, _, _, _, mg, mb, T, _⟩ := S.base
  exact Name_function_global hk hl (loadGlobal_global (by rw [hG]; exact T.g.keeps S.sub) (mg_of X T.g hv) (K v s.heap s.toks g u _ h S (StaysIn.refl _) (hu _))) hd
theorem we_builtin {x : Str} {pos} {v : Value} {P : V → Own → Prop} (h : P (.raw v) own) (hv : nsIn (Mine.K w.params) mainGlobals x = some none) (hb : bootBuiltins x = some v) (hn : x ≠ "__name__" := by decide)
    (hG : env.globals = mainGlobals := by rfl) (hB : env.builtins = builtinsNs := by rfl)
    (hk : env.scope.kind = .function := by rfl) (hl : env.kindOf x = some .globalImplicit := by rfl) (hd : (x == ("__debug__" : Str)) = false := by decide) : WE w k env (.Name x pos) own P := by
  intro A g s rest Q E _ ok S _ K
  obtain ⟨X, _, _, _, mg, mb, T, _⟩ := S.base
  exact Name_function_global hk hl (loadGlobal_builtin (by rw [hG]; exact T.g.keeps S.sub) (mg_none_of X T.g hv) (by rw [hB]; exact T.b.keeps S.sub) ((T.builtins x hn).trans hb) (K v s.heap s.toks g _ _ h S (StaysIn.refl _) (VR.raw_iff.mpr rfl))) hd

-- operators
theorem we_BinOp {l r : Expr} {op pos} {P : V → Own → Prop} (h : WE w k env l own fun v1 o1 => WE w k env r o1 fun v2 o2 => W2 w k v1 v2 (binaryOp op) (VR w) o2 P) : WE w k env (.BinOp l op r pos) own P := by
  intro A g s rest Q E c ok S i K
  refine wpAny_BinOp (h A g s rest _ _ c ok S i fun a h1 tk1 g1 v1 o1 h S1 l1 r1 => ?_)
  refine h A g1 _ rest _ _ () ok S1 trivial fun b h2 tk2 g2 v2 o2 h S2 l2 r2 => ?_
  exact h A g2 _ rest _ _ (a, b) ok S2 ⟨r1.mono l2, r2⟩ fun a h3 tk3 g3 v3 o3 h S3 l3 r3 => K a h3 tk3 g3 v3 o3 h S3 (StaysIn.trans (StaysIn.trans l1 l2) l3) r3
theorem we_Compare {l r : Expr} {op pos} {P : V → Own → Prop} (h : WE w k env l own fun v1 o1 => WE w k env r o1 fun v2 o2 => W2 w k v1 v2 (compareOp op) (VR w) o2 P) (hm : behindInMarks op r = false := by with_unfolding_all rfl) : WE w k env (.Compare l [op] [r] pos) own P := by
  intro A g s rest Q E c ok S i K
  refine wpAny_Compare1 (h A g s rest _ _ c ok S i fun a h1 tk1 g1 v1 o1 h S1 l1 r1 => ?_) hm
  refine h A g1 _ rest _ _ () ok S1 trivial fun b h2 tk2 g2 v2 o2 h S2 l2 r2 => ?_
  exact h A g2 _ rest _ _ (a, b) ok S2 ⟨r1.mono l2, r2⟩ fun a h3 tk3 g3 v3 o3 h S3 l3 r3 => K a h3 tk3 g3 v3 o3 h S3 (StaysIn.trans (StaysIn.trans l1 l2) l3) r3
theorem we_Unary {x : Expr} {op pos} {P : V → Own → Prop} (h : WE w k env x own fun v1 o1 => W1 w k v1 (unaryOp op) (VR w) o1 P) : WE w k env (.UnaryOp op x pos) own P := by
  intro A g s rest Q E c ok S i K
  refine wpAny_UnaryOp (h A g s rest _ _ c ok S i fun a h1 tk1 g1 v1 o1 h S1 l1 r1 => ?_)
  exact h A g1 _ rest _ _ a ok S1 r1 fun a h3 tk3 g3 v3 o3 h S3 l3 r3 => K a h3 tk3 g3 v3 o3 h S3 (StaysIn.trans l1 l3) r3
theorem we_IfExp {t b o : Expr} {pos} {P : V → Own → Prop} (h : WB w k env t own fun c o1 => if c then WE w k env b o1 P else WE w k env o o1 P) : WE w k env (.IfExp t b o pos) own P := by
  intro A g s rest Q E c ok S i K
  refine wpAny_IfExp (h A g s rest _ _ c ok S i fun a h1 tk1 g1 v1 o1 h S1 l1 r1 => ?_)
  subst r1
  cases a
  · exact h A g1 _ rest _ _ () ok S1 trivial fun a h3 tk3 g3 v3 o3 h S3 l3 r3 => K a h3 tk3 g3 v3 o3 h S3 (StaysIn.trans l1 l3) r3
  · exact h A g1 _ rest _ _ () ok S1 trivial fun a h3 tk3 g3 v3 o3 h S3 l3 r3 => K a h3 tk3 g3 v3 o3 h S3 (StaysIn.trans l1 l3) r3

-- tests
theorem wb_value {e : Expr} {P : Bool → Own → Prop} (h : WE w k env e own fun v o1 => W1 w k v truthy BR o1 P) (he : ∀ whole, isTrue e env whole = (do let v ← whole; standAt e.pos; holding [v] (truthy v)) := by intro _; rfl) : WB w k env e own P := by
  intro A g s rest Q E c ok S i K
  refine wpAny_isTrue_value (h A g s rest _ _ c ok S i fun a h1 tk1 g1 v1 o1 h S1 l1 r1 => ?_) (he _)
  exact h A g1 _ rest _ _ a ok S1 r1 fun a h3 tk3 g3 v3 o3 h S3 l3 r3 => K a h3 tk3 g3 v3 o3 h S3 (StaysIn.trans l1 l3) r3
theorem wb_Compare {l r : Expr} {op pos} {P : Bool → Own → Prop} (h : WE w k env l own fun v1 o1 => WE w k env r o1 fun v2 o2 => W2 w k v1 v2 (compareOp op) (VR w) o2 fun v o3 => ∃ b, v = .bool b ∧ P b o3) (hm : behindInMarks op r = false := by with_unfolding_all rfl) : WB w k env (.Compare l [op] [r] pos) own P := by
  intro A g s rest Q E c ok S i K
  refine wpAny_isTrue_Compare1 (h A g s rest _ _ c ok S i fun a h1 tk1 g1 v1 o1 h S1 l1 r1 => ?_) hm
  refine h A g1 _ rest _ _ () ok S1 trivial fun b h2 tk2 g2 v2 o2 h S2 l2 r2 => ?_
  refine h A g2 _ rest _ _ (a, b) ok S2 ⟨r1.mono l2, r2⟩ fun a h3 tk3 g3 v3 o3 h S3 l3 r3 => ?_
  obtain ⟨b, rfl, hP⟩ := h
  rw [VR.raw_iff] at r3
  subst r3
  exact wpAny_truthy_bool (K b h3 tk3 g3 b o3 hP S3 (StaysIn.trans (StaysIn.trans l1 l2) l3) rfl)
theorem wb_Not {x : Expr} {pos} {P : Bool → Own → Prop} (h : WB w k env x own fun b o => P (!b) o) : WB w k env (.UnaryOp .Not x pos) own P :=
  fun A g s rest Q E c ok S i K => wpAny_isTrue_Not (h A g s rest _ _ c ok S i fun _ h1 tk1 g1 _ o1 h S1 l1 r1 => K _ h1 tk1 g1 _ o1 h S1 l1 (by subst r1; rfl))
theorem wb_and_nil {pos} {P : Bool → Own → Prop} (h : P true own) : WB w k env (.BoolOp .And [] pos) own P :=
  fun _ g s _ _ _ _ _ S _ K => isTrue_and_nil (K _ s.heap s.toks g _ _ h S (StaysIn.refl _) rfl)
theorem wb_or_nil {pos} {P : Bool → Own → Prop} (h : P false own) : WB w k env (.BoolOp .Or [] pos) own P :=
  fun _ g s _ _ _ _ _ S _ K => isTrue_or_nil (K _ s.heap s.toks g _ _ h S (StaysIn.refl _) rfl)
theorem isTrue_whole_And {rest : List Expr} {pos} {a b : Sem Value} : isTrue (.BoolOp .And rest pos) env a = isTrue (.BoolOp .And rest pos) env b := rfl
theorem isTrue_whole_Or {rest : List Expr} {pos} {a b : Sem Value} : isTrue (.BoolOp .Or rest pos) env a = isTrue (.BoolOp .Or rest pos) env b := rfl
theorem wb_and {x : Expr} {r : List Expr} {pos} {P : Bool → Own → Prop} (h : WB w k env x own fun b o => if b then WB w k env (.BoolOp .And r pos) o P else P false o) : WB w k env (.BoolOp .And (x :: r) pos) own P := by
  intro A g s rest Q E c ok S i K
  refine isTrue_and (h A g s rest _ _ c ok S i fun a h1 tk1 g1 v1 o1 h S1 l1 r1 => ?_)
  subst r1
  cases a
  · exact K _ h1 tk1 g1 _ o1 h S1 l1 rfl
  · exact h A g1 _ rest _ _ () ok S1 trivial fun a h3 tk3 g3 v3 o3 h S3 l3 r3 => K a h3 tk3 g3 v3 o3 h S3 (StaysIn.trans l1 l3) r3
theorem isTrue_or' {M : Model} {A : Around} {E : Value → Shared → Prop} {s : Shared} {x : Expr} {rest : List Expr} {pos : Pos} {whole : Sem Value} {Q : Bool → Shared → Prop} (h : wpAny M A (isTrue x env (eval x env)) (fun b s₁ => if b then Q true s₁ else wpAny M A (isTrue (.BoolOp .Or rest pos) env whole) Q E s₁) E s) : wpAny M A (isTrue (.BoolOp .Or (x :: rest) pos) env whole) Q E s :=
  wpAny_isTrue_BoolOp (wpAny_allTrue_Or_cons h)
theorem wb_or {x : Expr} {r : List Expr} {pos} {P : Bool → Own → Prop} (h : WB w k env x own fun b o => if b then P true o else WB w k env (.BoolOp .Or r pos) o P) : WB w k env (.BoolOp .Or (x :: r) pos) own P := by
  intro A g s rest Q E c ok S i K
  refine isTrue_or' (h A g s rest _ _ c ok S i fun a h1 tk1 g1 v1 o1 h S1 l1 r1 => ?_)
  subst r1
  cases a
  · exact h A g1 _ rest _ _ () ok S1 trivial fun a h3 tk3 g3 v3 o3 h S3 l3 r3 => K a h3 tk3 g3 v3 o3 h S3 (StaysIn.trans l1 l3) r3
  · exact K _ h1 tk1 g1 _ o1 h S1 l1 rfl
theorem w1_truthy_int {i : Int} {P : Bool → Own → Prop} (h : P (i != 0) own) : W1 w k (.int i) truthy BR own P := by
  intro A g s rest Q E c ok S i K
  obtain ⟨t, rfl⟩ := VR.int_iff.mp i
  exact PyProof.Rows.truthy_int (K _ s.heap s.toks g _ _ h S (StaysIn.refl _) rfl)
end
end Mine

-- A3
namespace Mine
open PySem PySem.W PySem.Calls PyProof.Rows

noncomputable def setK (x : Str) (v : V) : List (Str × V) → List (Str × V)
  | [] => [(x, v)]
  | p :: r => if x == p.1 then (x, v) :: r else p :: setK x v r
theorem setK_lookup {x : Str} {v : V} : ∀ {ks : List (Str × V)} {y : Str} {u : V}, (setK x v ks).lookup y = some u → (y = x ∧ u = v) ∨ (y ≠ x ∧ ks.lookup y = some u)
  | [], y, u, h => by
    simp only [setK, List.lookup] at h
    by_cases q : (y == x) = true
    · rw [q] at h; exact .inl ⟨eq_of_beq q, (Option.some.inj h).symm⟩
    · simp [q] at h
  | p :: r, y, u, h => by
    unfold setK at h
    by_cases q : (x == p.1) = true
    · rw [if_pos q] at h
      have q' := eq_of_beq q
      simp only [List.lookup] at h
      by_cases z : (y == x) = true
      · rw [z] at h; exact .inl ⟨eq_of_beq z, (Option.some.inj h).symm⟩
      · have z0 : (y == x) = false := by simpa using z
        rw [z0] at h
        refine .inr ⟨fun e => z (by rw [e]; exact beq_self_eq_true x), ?_⟩
        simp only [List.lookup]
        rw [← q', z0]; exact h
    · rw [if_neg q] at h
      simp only [List.lookup] at h ⊢
      by_cases z : (y == p.1) = true
      · rw [z] at h ⊢
        refine .inr ⟨fun e => q ?_, h⟩
        rw [← e]; exact z
      · have z0 : (y == p.1) = false := by simpa using z
        rw [z0] at h ⊢
        exact setK_lookup h

section
variable {w : World} {k : Nat} {env : Env} {own : Own}

theorem ent_list {h g : Heap} {own : Own} {a : Addr} {vs : List V} (S : Sim w own h g) (hm : (a, O.list vs) ∈ own) : ∃ cvs n, h.get? a = some (listOf (List.toArray cvs) n) ∧ VRs w g vs cvs := by
  obtain ⟨_, _, o, ho, cvs, n, rfl, r⟩ := S.ent _ hm
  exact ⟨cvs, n, ho, r⟩
theorem ent_dict {h g : Heap} {own : Own} {a : Addr} {kvs : List (Int × V)} (S : Sim w own h g) (hm : (a, O.dict kvs) ∈ own) : (a == sysModules) = false ∧ ∃ cvs, h.DictOf (KI w) a cvs ∧ KR w g kvs cvs := by
  obtain ⟨h3, _, o, ho, cvs, r, q⟩ := S.ent _ hm
  refine ⟨?_, cvs, Heap.dictOf_iff.mpr ⟨o, ho, r⟩, q⟩
  have : a ≠ sysModules := fun e => by
    have h3' : 3 < a := h3
    rw [e] at h3'; exact absurd h3' (by decide)
  simpa using this

-- ints
theorem w2_add {i j : Int} {P : V → Own → Prop} (h : P (.int (i + j)) own) : W2 w k (.int i) (.int j) (binaryOp .Add) (VR w) own P := by
  rintro A g s rest Q E ⟨a, b⟩ ok S ⟨r1, r2⟩ K
  obtain ⟨t, rfl⟩ := VR.int_iff.mp r1; obtain ⟨u, rfl⟩ := VR.int_iff.mp r2
  exact PyProof.Rows.add_int (K _ s.heap _ g _ _ h S (StaysIn.refl _) (VR.int_iff.mpr ⟨_, rfl⟩))
theorem w2_iadd {i j : Int} {P : V → Own → Prop} (h : P (.int (i + j)) own) : W2 w k (.int i) (.int j) (inplaceOp .Add) (VR w) own P := by
  rintro A g s rest Q E ⟨a, b⟩ ok S ⟨r1, r2⟩ K
  obtain ⟨t, rfl⟩ := VR.int_iff.mp r1; obtain ⟨u, rfl⟩ := VR.int_iff.mp r2
  exact PyProof.Rows.iadd_int (K _ s.heap _ g _ _ h S (StaysIn.refl _) (VR.int_iff.mpr ⟨_, rfl⟩))
theorem w2_sub {i j : Int} {P : V → Own → Prop} (h : P (.int (i - j)) own) : W2 w k (.int i) (.int j) (binaryOp .Sub) (VR w) own P := by
  rintro A g s rest Q E ⟨a, b⟩ ok S ⟨r1, r2⟩ K
  obtain ⟨t, rfl⟩ := VR.int_iff.mp r1; obtain ⟨u, rfl⟩ := VR.int_iff.mp r2
  exact PyProof.Rows.sub_int (K _ s.heap _ g _ _ h S (StaysIn.refl _) (VR.int_iff.mpr ⟨_, rfl⟩))
theorem mulOk {i j : Int} (hi : i.natAbs < 2 ^ 63) : IntMulOk i j := by
  unfold IntMulOk
  have h1 : Builtin.Int.intBits i ≤ shortFactorBits := intBits_le_64 (by omega) (by omega)
  simp [Nat.not_lt.mpr h1]
theorem w2_mul {i j : Int} {P : V → Own → Prop} (h : P (.int (i * j)) own) (hm : i.natAbs < 2 ^ 63) : W2 w k (.int i) (.int j) (binaryOp .Mult) (VR w) own P := by
  rintro A g s rest Q E ⟨a, b⟩ ok S ⟨r1, r2⟩ K
  obtain ⟨t, rfl⟩ := VR.int_iff.mp r1; obtain ⟨u, rfl⟩ := VR.int_iff.mp r2
  exact PyProof.Rows.mul_int (K _ s.heap _ g _ _ h S (StaysIn.refl _) (VR.int_iff.mpr ⟨_, rfl⟩)) (mulOk hm)
theorem w2_floordiv {i j : Int} {P : V → Own → Prop} (h : P (.int (i.fdiv j)) own) (hj : j ≠ 0) (hs : j.natAbs < 1073741824) : W2 w k (.int i) (.int j) (binaryOp .FloorDiv) (VR w) own P := by
  rintro A g s rest Q E ⟨a, b⟩ ok S ⟨r1, r2⟩ K
  obtain ⟨t, rfl⟩ := VR.int_iff.mp r1; obtain ⟨u, rfl⟩ := VR.int_iff.mp r2
  exact PyProof.Rows.floordiv_int hj (K _ s.heap _ g _ _ h S (StaysIn.refl _) (VR.int_iff.mpr ⟨_, rfl⟩)) (.inl (PyProof.noPylong_small hs))
theorem w2_mod {i j : Int} {P : V → Own → Prop} (h : P (.int (i.fmod j)) own) (hj : j ≠ 0) : W2 w k (.int i) (.int j) (binaryOp .Mod) (VR w) own P := by
  rintro A g s rest Q E ⟨a, b⟩ ok S ⟨r1, r2⟩ K
  obtain ⟨t, rfl⟩ := VR.int_iff.mp r1; obtain ⟨u, rfl⟩ := VR.int_iff.mp r2
  exact PyProof.Rows.mod_int hj (K _ s.heap _ g _ _ h S (StaysIn.refl _) (VR.int_iff.mpr ⟨_, rfl⟩))
theorem w2_rshift {i j : Int} {P : V → Own → Prop} (h : P (.int (i.fdiv (2 ^ j.toNat))) own) (hj : 0 ≤ j) : W2 w k (.int i) (.int j) (binaryOp .RShift) (VR w) own P := by
  rintro A g s rest Q E ⟨a, b⟩ ok S ⟨r1, r2⟩ K
  obtain ⟨t, rfl⟩ := VR.int_iff.mp r1; obtain ⟨u, rfl⟩ := VR.int_iff.mp r2
  exact PyProof.Rows.rshift_int hj (K _ s.heap _ g _ _ h S (StaysIn.refl _) (VR.int_iff.mpr ⟨_, rfl⟩))
theorem w2_lshift {i j : Int} {P : V → Own → Prop} (h : P (.int (i * 2 ^ j.toNat)) own) (hj : 0 ≤ j) (hj2 : j ≤ 1000000) (hi : i.natAbs < 2 ^ 64) : W2 w k (.int i) (.int j) (binaryOp .LShift) (VR w) own P := by
  rintro A g s rest Q E ⟨a, b⟩ ok S ⟨r1, r2⟩ K
  obtain ⟨t, rfl⟩ := VR.int_iff.mp r1; obtain ⟨u, rfl⟩ := VR.int_iff.mp r2
  exact PyProof.Rows.lshift_int_small hj hj2 hi (K _ s.heap _ g _ _ h S (StaysIn.refl _) (VR.int_iff.mpr ⟨_, rfl⟩))
theorem w2_xor {i j : Int} {P : V → Own → Prop} (h : P (.int (Builtin.bitXor i j)) own) : W2 w k (.int i) (.int j) (binaryOp .BitXor) (VR w) own P := by
  rintro A g s rest Q E ⟨a, b⟩ ok S ⟨r1, r2⟩ K
  obtain ⟨t, rfl⟩ := VR.int_iff.mp r1; obtain ⟨u, rfl⟩ := VR.int_iff.mp r2
  exact PyProof.Rows.xor_int (K _ s.heap _ g _ _ h S (StaysIn.refl _) (VR.int_iff.mpr ⟨_, rfl⟩))
theorem w1_neg {i : Int} {P : V → Own → Prop} (h : P (.int (-i)) own) : W1 w k (.int i) (unaryOp .USub) (VR w) own P := by
  rintro A g s rest Q E a ok S r1 K
  obtain ⟨t, rfl⟩ := VR.int_iff.mp r1
  exact PyProof.Rows.neg_int (K _ s.heap _ g _ _ h S (StaysIn.refl _) (VR.int_iff.mpr ⟨_, rfl⟩))
theorem w1_inv {i : Int} {P : V → Own → Prop} (h : P (.int (Builtin.bitNot i)) own) : W1 w k (.int i) (unaryOp .Invert) (VR w) own P := by
  rintro A g s rest Q E a ok S r1 K
  obtain ⟨t, rfl⟩ := VR.int_iff.mp r1
  exact PyProof.Rows.invert_int (K _ s.heap _ g _ _ h S (StaysIn.refl _) (VR.int_iff.mpr ⟨_, rfl⟩))
theorem w2_lt {i j : Int} {P : V → Own → Prop} (h : P (.bool (decide (i < j))) own) : W2 w k (.int i) (.int j) (compareOp .Lt) (VR w) own P := by
  rintro A g s rest Q E ⟨a, b⟩ ok S ⟨r1, r2⟩ K
  obtain ⟨t, rfl⟩ := VR.int_iff.mp r1; obtain ⟨u, rfl⟩ := VR.int_iff.mp r2
  exact PyProof.Rows.lt_int (K _ s.heap s.toks g _ _ h S (StaysIn.refl _) (VR.raw_iff.mpr rfl))
theorem w2_le {i j : Int} {P : V → Own → Prop} (h : P (.bool (decide (i ≤ j))) own) : W2 w k (.int i) (.int j) (compareOp .LtE) (VR w) own P := by
  rintro A g s rest Q E ⟨a, b⟩ ok S ⟨r1, r2⟩ K
  obtain ⟨t, rfl⟩ := VR.int_iff.mp r1; obtain ⟨u, rfl⟩ := VR.int_iff.mp r2
  exact PyProof.Rows.le_int (K _ s.heap s.toks g _ _ h S (StaysIn.refl _) (VR.raw_iff.mpr rfl))
theorem w2_gt {i j : Int} {P : V → Own → Prop} (h : P (.bool (decide (j < i))) own) : W2 w k (.int i) (.int j) (compareOp .Gt) (VR w) own P := by
  rintro A g s rest Q E ⟨a, b⟩ ok S ⟨r1, r2⟩ K
  obtain ⟨t, rfl⟩ := VR.int_iff.mp r1; obtain ⟨u, rfl⟩ := VR.int_iff.mp r2
  exact PyProof.Rows.gt_int (K _ s.heap s.toks g _ _ h S (StaysIn.refl _) (VR.raw_iff.mpr rfl))
theorem w2_ge {i j : Int} {P : V → Own → Prop} (h : P (.bool (decide (j ≤ i))) own) : W2 w k (.int i) (.int j) (compareOp .GtE) (VR w) own P := by
  rintro A g s rest Q E ⟨a, b⟩ ok S ⟨r1, r2⟩ K
  obtain ⟨t, rfl⟩ := VR.int_iff.mp r1; obtain ⟨u, rfl⟩ := VR.int_iff.mp r2
  exact PyProof.Rows.ge_int (K _ s.heap s.toks g _ _ h S (StaysIn.refl _) (VR.raw_iff.mpr rfl))
theorem w2_eq {i j : Int} {P : V → Own → Prop} (h : P (.bool (i == j)) own) : W2 w k (.int i) (.int j) (compareOp .Eq) (VR w) own P := by
  rintro A g s rest Q E ⟨a, b⟩ ok S ⟨r1, r2⟩ K
  obtain ⟨t, rfl⟩ := VR.int_iff.mp r1; obtain ⟨u, rfl⟩ := VR.int_iff.mp r2
  exact PyProof.Rows.eq_int (K _ s.heap s.toks g _ _ h S (StaysIn.refl _) (VR.raw_iff.mpr rfl))
theorem w2_ne {i j : Int} {P : V → Own → Prop} (h : P (.bool (i != j)) own) : W2 w k (.int i) (.int j) (compareOp .NotEq) (VR w) own P := by
  rintro A g s rest Q E ⟨a, b⟩ ok S ⟨r1, r2⟩ K
  obtain ⟨t, rfl⟩ := VR.int_iff.mp r1; obtain ⟨u, rfl⟩ := VR.int_iff.mp r2
  exact PyProof.Rows.ne_int (K _ s.heap s.toks g _ _ h S (StaysIn.refl _) (VR.raw_iff.mpr rfl))
noncomputable def isNon : V → Bool
  | .raw .none => true
  | _ => false
theorem VR.isNon {g v c} (r : VR w g v c) : (c == Value.none) = isNon v := by
  cases v with
  | int i => obtain ⟨t, rfl⟩ := VR.int_iff.mp r; rfl
  | raw x =>
    rw [VR.raw_iff] at r; subst r
    cases c <;> rfl
  | tup vs => obtain ⟨a, _, rfl, _⟩ := VR.tup_iff.mp r; rfl
  | dct vs => obtain ⟨a, _, rfl, _⟩ := VR.dct_iff.mp r; rfl
theorem w2_isnone {v : V} {P : V → Own → Prop} (h : P (.bool (isNon v)) own) : W2 w k v .non (compareOp .Is) (VR w) own P := by
  rintro A g s rest Q E ⟨a, b⟩ ok S ⟨r1, r2⟩ K
  rw [VR.raw_iff] at r2
  dsimp only at r1 r2 ⊢
  subst r2
  exact PySem.is_none (K _ s.heap s.toks g _ _ h S (StaysIn.refl _) (VR.raw_iff.mpr (by rw [r1.isNon])))

-- items
theorem w2_list {a : Addr} {vs : List V} {i : Int} {v : V} {value slice : Expr} {P : V → Own → Prop} (h : P v own) (hm : (a, O.list vs) ∈ own) (hi : 0 ≤ i) (hx : vs[i.toNat]? = some v) (hf : i < 2 ^ 63)
    (hs : ∀ o i, subscripted slice false o i = operate [o, i] (getItem o i) := by intro _ _; with_unfolding_all rfl) : W2 w k (.ref a) (.int i) (subscriptTail value slice) (VR w) own P := by
  rintro A g s rest Q E ⟨c, d⟩ ok S ⟨r1, r2⟩ K
  obtain ⟨t, e⟩ := VR.int_iff.mp r2
  rw [VR.raw_iff] at r1
  dsimp only at r1 e ⊢
  subst r1 e
  obtain ⟨cvs, n, ho, r⟩ := ent_list S (List.mem_append_left _ hm)
  obtain ⟨cv, hc, rc⟩ := r.get hx
  have hl : s.heap.IsList a (List.toArray cvs) := ⟨_, ho, rfl, n, rfl⟩
  exact tail_any hl.typeIs slot_list_getitem.lookup (wpAny_getItem_list hl hi hf (by simpa using hc) (K _ s.heap s.toks g _ _ h S (StaysIn.refl _) rc)) (hs _ _)
theorem w2_list_neg {a : Addr} {vs : List V} {i : Int} {v : V} {value slice : Expr} {P : V → Own → Prop} (h : P v own) (hm : (a, O.list vs) ∈ own) (hi : i < 0) (hi2 : -(vs.length : Int) ≤ i) (hx : vs[(i + vs.length).toNat]? = some v) (hf : -(2 ^ 63) ≤ i)
    (hs : ∀ o i, subscripted slice false o i = operate [o, i] (getItem o i) := by intro _ _; with_unfolding_all rfl) : W2 w k (.ref a) (.int i) (subscriptTail value slice) (VR w) own P := by
  rintro A g s rest Q E ⟨c, d⟩ ok S ⟨r1, r2⟩ K
  obtain ⟨t, e⟩ := VR.int_iff.mp r2
  rw [VR.raw_iff] at r1
  dsimp only at r1 e ⊢
  subst r1 e
  obtain ⟨cvs, n, ho, r⟩ := ent_list S (List.mem_append_left _ hm)
  obtain ⟨cv, hc, rc⟩ := r.get hx
  have hl : s.heap.IsList a (List.toArray cvs) := ⟨_, ho, rfl, n, rfl⟩
  have hlen := r.length
  exact tail_any hl.typeIs slot_list_getitem.lookup (wpAny_getItem_list_neg hl hi (by simpa [hlen] using hi2) hf (by simpa [hlen] using hc) (K _ s.heap s.toks g _ _ h S (StaysIn.refl _) rc)) (hs _ _)
theorem w2_tup {vs : List V} {i : Int} {j : Nat} {v : V} {value slice : Expr} {P : V → Own → Prop} (h : P v own) (hj : seqIndex? i vs.length = some j) (hx : vs[j]? = some v) (hlo : -(2 ^ 63) ≤ i := by decide) (hhi : i < 2 ^ 63 := by decide)
    (hs : ∀ o i, subscripted slice false o i = operate [o, i] (getItem o i) := by intro _ _; with_unfolding_all rfl) : W2 w k (.tup vs) (.int i) (subscriptTail value slice) (VR w) own P := by
  rintro A g s rest Q E ⟨c, d⟩ ok S ⟨r1, r2⟩ K
  obtain ⟨t, e⟩ := VR.int_iff.mp r2
  obtain ⟨a, cvs, e1, ht, r⟩ := VR.tup_iff.mp r1
  dsimp only at e1 e ⊢
  subst e1 e
  obtain ⟨cv, hc, rc⟩ := r.get hx
  exact item_tupleT (ht.keeps S.sub) hlo hhi (by rw [r.length]; exact hj) hc (K _ s.heap s.toks g _ _ h S (StaysIn.refl _) rc) (hs _ _)

-- stores
theorem w1_store {x : Str} {L : Addr} {ks : List (Str × V)} {v : V} {P : Unit → Own → Prop} (h : P () ((L, .frame (setK x v ks)) :: own)) (hL : env.locals = L := by rfl)
    (hk : env.scope.kind = .function := by rfl) (hl : env.kindOf x = some .local := by rfl) : W1 w k v (fun c => storeName env x c) UR ((L, .frame ks) :: own) P := by
  intro A g s rest Q E c ok S r K
  obtain ⟨_, _, o, ho, es, ep, hd, hks, hm⟩ := S.ent (L, .frame ks) (List.mem_cons_self ..)
  subst hL
  refine wpAny_storeName_local (m := nsFind es) hl ⟨o, es, ep, ho, hd, hks, fun _ => rfl⟩ (fun h' hn hs => ?_) (by rw [hk]; rfl)
  obtain ⟨o', es', ep', ho', hd', hk', hm'⟩ := hn
  refine K () h' _ g () _ h ?_ (StaysIn.refl _) trivial
  refine S.turn (pre := []) hs ho' ⟨es', ep', hd', hk', fun y u e => ?_⟩
  rw [hm']; dsimp only
  rcases setK_lookup e with ⟨rfl, rfl⟩ | ⟨q, e⟩
  · rw [if_pos rfl]; exact ⟨c, rfl, r⟩
  · rw [if_neg q]; exact hm y u e
theorem w1_store_cell {x : Str} {a : Addr} {ov : O} {own' : Own} {v : V} {P : Unit → Own → Prop} (h : P () own') (hc : env.cells.lookup x = some a) (m : At a ov (.cell v) own own') (ho : ov = .nocell ∨ ∃ u, ov = .cell u)
    (hk : env.scope.kind = .function := by rfl) (hl : env.kindOf x = some .cell := by rfl) : W1 w k v (fun c => storeName env x c) UR own P := by
  intro A g s rest Q E c ok S r K
  obtain ⟨o, hoo, q⟩ := S.at (m.append rest)
  obtain ⟨v₀, hv₀⟩ : ∃ v₀, o.data = .cell v₀ := by
    rcases ho with rfl | ⟨u, rfl⟩
    · exact q
    · obtain ⟨c, e, _⟩ := q; exact ⟨_, e⟩
  refine wpAny_storeName_cell hk hl hc ⟨o, hoo, hv₀⟩ fun h' hv hs => ?_
  obtain ⟨o', ho', hd'⟩ := hv
  exact K () h' s.toks g () _ h (S.turnAt (m.append rest) hs ho' ⟨c, hd', r⟩) (StaysIn.refl _) trivial

-- assignment
noncomputable abbrev WA (w : World) (k : Nat) (env : Env) (t : Expr) (v : V) : Own → (Unit → Own → Prop) → Prop := W1 w k v (fun c => assign t env c) UR
noncomputable abbrev WAs (w : World) (k : Nat) (env : Env) (ts : List Expr) (vs : List V) : Own → (Unit → Own → Prop) → Prop := WL w k vs (fun cs => assignInOrder ((assignEach ts env).map (·.2)) cs) UR
theorem wa_Name {x pos} {v : V} {P : Unit → Own → Prop} (h : W1 w k v (fun c => storeName env x c) UR own P) : WA w k env (.Name x pos) v own P :=
  fun A g s rest Q E c ok S r K => wpAny_assign_Name (h A g s rest Q E c ok S r K)
theorem was_nil {P : Unit → Own → Prop} (h : P () own) : WAs w k env [] [] own P := by
  intro A g s rest Q E c ok S r K
  rw [VRs.nil_iff] at r; subst r
  exact assignInOrder_nil (K () s.heap s.toks g () _ h S (StaysIn.refl _) trivial)
theorem was_cons {t : Expr} {ts : List Expr} {v : V} {vs : List V} {P : Unit → Own → Prop} (h : WA w k env t v own fun _ o => WAs w k env ts vs o P) (he : assignEach (t :: ts) env = (false, assign t env) :: assignEach ts env := by rfl) : WAs w k env (t :: ts) (v :: vs) own P := by
  intro A g s rest Q E c ok S r K
  obtain ⟨x, r', rfl, hx, hr⟩ := VRs.cons_iff.mp r
  rw [he]
  refine assignInOrder_cons (h A g s rest _ _ x ok S hx fun a h1 tk1 g1 v1 o1 h S1 l1 _ => ?_)
  exact h A g1 _ rest _ _ r' ok S1 (hr.mono l1) fun a h3 tk3 g3 v3 o3 h S3 l3 r3 => K a h3 tk3 g3 v3 o3 h S3 (StaysIn.trans l1 l3) r3
theorem wa_Tuple {elts : List Expr} {n pos} {vs : List V} {P : Unit → Own → Prop} (h : WAs w k env elts vs own P) (hn : (assignEach elts env).length = vs.length := by rfl) (hst : (assignEach elts env).findIdx? (·.1) = none := by rfl) : WA w k env (.Tuple elts n pos) (.tup vs) own P := by
  intro A g s rest Q E c ok S r K
  obtain ⟨a, cvs, rfl, ht, hr⟩ := VR.tup_iff.mp r
  have ht' : s.heap.IsTuple a (List.toArray cvs) := ht.keeps S.sub
  refine wpAny_assign_Tuple ok.1 ht' (by rw [hn, List.size_toArray, hr.length]) hst fun h' hb => ?_
  have k1 : s.heap.StaysIn h' := fun b o e => hb b o (Nat.ne_of_lt (Heap.lt_size e)) e
  exact h A g { s with heap := h' } rest Q E cvs ok (S.ext k1) hr K

-- statements
theorem wss_nil {P : FV → Own → Prop} (h : P .next own) : WSs w k env [] own P :=
  fun _ g s _ _ _ _ _ S _ K => wpAny_execs_nil (K _ s.heap s.toks g _ _ h S (StaysIn.refl _) rfl)
noncomputable def seqP (w : World) (k : Nat) (env : Env) (rest : List Stmt) (P : FV → Own → Prop) : FV → Own → Prop
  | .next, o => WSs w k env rest o P
  | f, o => P f o
theorem wss_cons {st : Stmt} {r : List Stmt} {P : FV → Own → Prop} (h : WS w k env st own (seqP w k env r P)) : WSs w k env (st :: r) own P := by
  intro A g s rest Q E c ok S i K
  refine wpAny_execs_cons (h A g s rest _ _ c ok S i fun f h1 tk1 g1 fv o1 h S1 l1 r1 => ?_)
  cases fv with
  | next =>
    cases r1
    exact h A g1 _ rest _ _ () ok S1 trivial fun a h3 tk3 g3 v3 o3 h S3 l3 r3 => K a h3 tk3 g3 v3 o3 h S3 (StaysIn.trans l1 l3) r3
  | brk => cases r1; exact K _ h1 tk1 g1 .brk o1 h S1 l1 rfl
  | cont => cases r1; exact K _ h1 tk1 g1 .cont o1 h S1 l1 rfl
  | ret v => obtain ⟨c, rfl, r1⟩ := r1; exact K _ h1 tk1 g1 (.ret v) o1 h S1 l1 ⟨c, rfl, r1⟩
theorem ws_Assign_Name {x p value pos} {P : FV → Own → Prop} (h : WE w k env value own fun v o => W1 w k v (fun c => storeName env x c) UR o fun _ o => P .next o) (hs : swapsWith value (some (.Name x p)) pos.line env = pure false := by rfl) : WS w k env (.Assign [.Name x p] value pos) own P := by
  intro A g s rest Q E c ok S i K
  refine wpAny_Assign_Name (h A g s rest _ _ c ok S i fun a h1 tk1 g1 v1 o1 h S1 l1 r1 => ?_) hs
  exact h A g1 _ rest _ _ a ok S1 r1 fun a h3 tk3 g3 v3 o3 h S3 l3 r3 => K .next h3 tk3 g3 .next o3 h S3 (StaysIn.trans l1 l3) rfl
theorem ws_Assign_Tuple {elts n tp value pos} {P : FV → Own → Prop} (h : WE w k env value own fun v o => WA w k env (.Tuple elts n tp) v o fun _ o => P .next o) (hs : swapsWithSole [.Tuple elts n tp] value pos.line env = pure false := by rfl) (hw : swappedStores [.Tuple elts n tp] value env = pure none := by rfl) : WS w k env (.Assign [.Tuple elts n tp] value pos) own P := by
  intro A g s rest Q E c ok S i K
  refine Assign_Tuple (h A g s rest _ _ c ok S i fun a h1 tk1 g1 v1 o1 h S1 l1 r1 => ?_) hs hw
  exact h A g1 _ rest _ _ a ok S1 r1 fun a h3 tk3 g3 v3 o3 h S3 l3 r3 => K .next h3 tk3 g3 .next o3 h S3 (StaysIn.trans l1 l3) rfl
theorem ws_Assign_Sub {o i p value pos} {P : FV → Own → Prop} (h : WE w k env value own fun v o1 => WE w k env o o1 fun u o2 => WE w k env i o2 fun z o3 => W3 w k u z v setItem UR o3 fun _ o => P .next o) (hs : swapsWith value (some (.Subscript o i p)) pos.line env = pure false := by rfl) : WS w k env (.Assign [.Subscript o i p] value pos) own P := by
  intro A g s rest Q E c ok S i K
  refine wpAny_Assign_Subscript (h A g s rest _ _ c ok S i fun a h1 tk1 g1 v1 o1 h S1 l1 r1 => ?_) hs
  refine h A g1 _ rest _ _ () ok S1 trivial fun b h2 tk2 g2 v2 o2 h S2 l2 r2 => ?_
  refine h A g2 _ rest _ _ () ok S2 trivial fun d h3 tk3 g3 v3 o3 h S3 l3 r3 => ?_
  exact h A g3 _ rest _ _ (b, d, a) ok S3 ⟨r2.mono l3, r3, (r1.mono l2).mono l3⟩ fun a h4 tk4 g4 v4 o4 h S4 l4 r4 => K .next h4 tk4 g4 .next o4 h S4 (StaysIn.trans (StaysIn.trans l1 l2) (StaysIn.trans l3 l4)) rfl
theorem w3_list {a : Addr} {vs : List V} {i : Int} {v : V} {own' : Own} {P : Unit → Own → Prop} (h : P () own') (m : At a (.list vs) (.list (vs.set i.toNat v)) own own') (hi : 0 ≤ i) (hn : i.toNat < vs.length) (hf : i < 2 ^ 63) : W3 w k (.ref a) (.int i) v setItem UR own P := by
  rintro A g s rest Q E ⟨c, d, e⟩ ok S ⟨r1, r2, r3⟩ K
  obtain ⟨t, e2⟩ := VR.int_iff.mp r2
  rw [VR.raw_iff] at r1
  dsimp only at r1 e2 r3 ⊢
  subst r1 e2
  obtain ⟨o, ho, cvs, n, rfl, r⟩ := S.at (m.append rest)
  refine ki_setAt ho hi hf (by rw [List.size_toArray, r.length]; omega) ?_
  refine K () _ s.toks g () _ h (S.turnAt (m.append rest) (Heap.SameBut.update ..) (Heap.get?_update_self _ ho ?_) ⟨cvs.set i.toNat e, n, ?_, r.set r3⟩) (StaysIn.refl _) trivial
  · rfl
  · simp [Obj.mapSeq]
theorem ws_AugAssign_Name {x p op value pos} {P : FV → Own → Prop} (h : Wg (γ := Unit) w k (fun _ _ => True) (fun _ => loadName env x) (VR w) own fun v o1 => WE w k env value o1 fun u o2 => W2 w k v u (inplaceOp op) (VR w) o2 fun z o3 => W1 w k z (fun c => storeName env x c) UR o3 fun _ o => P .next o) : WS w k env (.AugAssign (.Name x p) op value pos) own P := by
  intro A g s rest Q E c ok S i K
  refine wpAny_AugAssign_Name (h A g s rest _ _ c ok S i fun a h1 tk1 g1 v1 o1 h S1 l1 r1 => ?_)
  refine h A g1 _ rest _ _ () ok S1 trivial fun b h2 tk2 g2 v2 o2 h S2 l2 r2 => ?_
  refine h A g2 _ rest _ _ (a, b) ok S2 ⟨r1.mono l2, r2⟩ fun d h3 tk3 g3 v3 o3 h S3 l3 r3 => ?_
  exact h A g3 _ rest _ _ d ok S3 r3 fun a h4 tk4 g4 v4 o4 h S4 l4 r4 => K .next h4 tk4 g4 .next o4 h S4 (StaysIn.trans (StaysIn.trans l1 l2) (StaysIn.trans l3 l4)) rfl
theorem ws_AugAssign_Sub {o x xp p op value pos} {P : FV → Own → Prop} (h : WE w k env o own fun u o1 => WE w k env (.Name x xp) o1 fun z o2 => W2 w k u z getItem (VR w) o2 fun v o3 => WE w k env value o3 fun y o4 => W2 w k v y (inplaceOp op) (VR w) o4 fun n o5 => W3 w k u z n setItem UR o5 fun _ o => P .next o) : WS w k env (.AugAssign (.Subscript o (.Name x xp) p) op value pos) own P := by
  intro A g s rest Q E c ok S i K
  refine wpAny_AugAssign_Subscript (h A g s rest _ _ c ok S i fun a h1 tk1 g1 v1 o1 h S1 l1 r1 => ?_)
  refine h A g1 _ rest _ _ () ok S1 trivial fun b h2 tk2 g2 v2 o2 h S2 l2 r2 => ?_
  refine h A g2 _ rest _ _ (a, b) ok S2 ⟨r1.mono l2, r2⟩ fun d h3 tk3 g3 v3 o3 h S3 l3 r3 => ?_
  refine h A g3 _ rest _ _ () ok S3 trivial fun e h4 tk4 g4 v4 o4 h S4 l4 r4 => ?_
  refine h A g4 _ rest _ _ (d, e) ok S4 ⟨r3.mono l4, r4⟩ fun f h5 tk5 g5 v5 o5 h S5 l5 r5 => ?_
  have l := StaysIn.trans (StaysIn.trans l3 l4) l5
  exact h A g5 _ rest _ _ (a, b, f) ok S5 ⟨(r1.mono l2).mono l, r2.mono l, r5⟩ fun a h6 tk6 g6 v6 o6 h S6 l6 r6 => K .next h6 tk6 g6 .next o6 h S6 (StaysIn.trans (StaysIn.trans l1 l2) (StaysIn.trans l l6)) rfl
theorem ws_If {t b o pos} {P : FV → Own → Prop} (h : WB w k env t own fun c o1 => if c then WSs w k env b o1 P else WSs w k env o o1 P) : WS w k env (.If t b o pos) own P := by
  intro A g s rest Q E c ok S i K
  refine wpAny_If (h A g s rest _ _ c ok S i fun a h1 tk1 g1 v1 o1 h S1 l1 r1 => ?_)
  subst r1
  cases a
  · exact h A g1 _ rest _ _ () ok S1 trivial fun a h3 tk3 g3 v3 o3 h S3 l3 r3 => K a h3 tk3 g3 v3 o3 h S3 (StaysIn.trans l1 l3) r3
  · exact h A g1 _ rest _ _ () ok S1 trivial fun a h3 tk3 g3 v3 o3 h S3 l3 r3 => K a h3 tk3 g3 v3 o3 h S3 (StaysIn.trans l1 l3) r3
theorem ws_Return {e pos} {P : FV → Own → Prop} (h : WE w k env e own fun v o => P (.ret v) o) : WS w k env (.Return (some e) pos) own P :=
  fun A g s rest Q E c ok S i K => wpAny_Return_some (h A g s rest _ _ c ok S i fun a h1 tk1 g1 v1 o1 h S1 l1 r1 => K (.ret a) h1 tk1 g1 (.ret v1) o1 h S1 l1 ⟨a, rfl, r1⟩)
theorem ws_Return_none {pos} {P : FV → Own → Prop} (h : P (.ret .non) own) : WS w k env (.Return none pos) own P :=
  fun _ g s _ _ _ _ _ S _ K => wpAny_Return_none (K _ s.heap s.toks g (.ret .non) _ h S (StaysIn.refl _) ⟨_, rfl, VR.raw_iff.mpr rfl⟩)
theorem ws_Expr {e pos} {P : FV → Own → Prop} (h : WE w k env e own fun _ o => P .next o) (hi : interactive env = false := by rfl) (hs : swapsWith e none pos.line env = pure false := by rfl) : WS w k env (.Expr e pos) own P :=
  fun A g s rest Q E c ok S i K => wpAny_Expr_any (h A g s rest _ _ c ok S i fun _ h1 tk1 g1 _ o1 h S1 l1 _ => K .next h1 tk1 g1 .next o1 h S1 l1 rfl) hi hs
theorem ws_Break {pos} {P : FV → Own → Prop} (h : P .brk own) : WS w k env (.Break pos) own P :=
  fun _ g s _ _ _ _ _ S _ K => wpAny_Break (K _ s.heap s.toks g .brk _ h S (StaysIn.refl _) rfl)
theorem ws_Continue {pos} {P : FV → Own → Prop} (h : P .cont own) : WS w k env (.Continue pos) own P :=
  fun _ g s _ _ _ _ _ S _ K => wpAny_Continue (K _ s.heap s.toks g .cont _ h S (StaysIn.refl _) rfl)

noncomputable def loopP (P : FV → Own → Prop) (I : Own → Prop) : FV → Own → Prop
  | .next, o => I o
  | .cont, o => I o
  | .brk, o => P .next o
  | .ret v, o => P (.ret v) o
theorem ws_While {t b e pos} {P : FV → Own → Prop} (I : Nat → Own → Prop)
    (turn : ∀ n o, I n o → WB w k env t o fun c o1 => if c then WSs w k env b o1 (loopP P fun o => ∃ m, m < n ∧ I m o) else WSs w k env e o1 P) (n : Nat) (h : I n own) : WS w k env (.While t b e pos) own P := by
  intro A g s rest Q E c ok S i K
  refine wpAny_While (codeAny_whileLoop (fun n s' => ∃ o h' tk g', I n o ∧ s' = { s with heap := h', toks := tk } ∧ Sim w (o ++ rest) h' g' ∧ g.StaysIn g') ?_ n ⟨own, s.heap, s.toks, g, h, rfl, S, StaysIn.refl _⟩)
  rintro n s' ⟨o, h', tk, g', hI, rfl, S', l'⟩
  refine turn n o hI A g' _ rest _ _ () ok S' trivial fun a h1 tk1 g1 v1 o1 h S1 l1 r1 => ?_
  subst r1
  cases a
  · exact h A g1 _ rest _ _ () ok S1 trivial fun a h3 tk3 g3 v3 o3 h S3 l3 r3 => K a h3 tk3 g3 v3 o3 h S3 (StaysIn.trans (StaysIn.trans l' l1) l3) r3
  · refine h A g1 _ rest _ _ () ok S1 trivial fun a h3 tk3 g3 v3 o3 h S3 l3 r3 => ?_
    have l := StaysIn.trans (StaysIn.trans l' l1) l3
    cases v3 with
    | next => cases r3; obtain ⟨m, hm, hI'⟩ := h; exact ⟨m, hm, o3, h3, tk3, g3, hI', rfl, S3, l⟩
    | cont => cases r3; obtain ⟨m, hm, hI'⟩ := h; exact ⟨m, hm, o3, h3, tk3, g3, hI', rfl, S3, l⟩
    | brk => cases r3; exact K _ h3 tk3 g3 .next o3 h S3 l rfl
    | ret v => obtain ⟨c, rfl, r3⟩ := r3; exact K _ h3 tk3 g3 (.ret v) o3 h S3 l ⟨c, rfl, r3⟩
end
end Mine

-- A4
namespace Mine
open PySem PySem.W PySem.Calls PyProof.Rows

section
variable {w : World} {k : Nat} {env : Env} {own : Own}

-- lists of expressions
theorem wes_nil {pos} {P : List V → Own → Prop} (h : P [] own) : WEs w k env pos [] own P :=
  fun _ g s _ _ _ _ _ S _ K => spliced_none (K [] s.heap s.toks g [] _ h S (StaysIn.refl _) (VRs.nil_iff.mpr rfl))
theorem wes_cons {pos} {e : Expr} {r : List Expr} {P : List V → Own → Prop} (h : WE w k env e own fun v o1 => WEs w k env pos r o1 fun vs o2 => P (v :: vs) o2) (he : starEach (e :: r) env = (false, eval e env) :: starEach r env := by rfl) : WEs w k env pos (e :: r) own P := by
  intro A g s rest Q E c ok S i K
  refine spliced_more (h A g s rest _ _ c ok S i fun a h1 tk1 g1 v1 o1 h S1 l1 r1 => ?_) he
  exact h A g1 _ rest _ _ () ok S1 trivial fun b h2 tk2 g2 v2 o2 h S2 l2 r2 => K (a :: b) h2 tk2 g2 (v1 :: v2) o2 h S2 (StaysIn.trans l1 l2) (VRs.cons_iff.mpr ⟨a, b, rfl, r1.mono l2, r2⟩)

theorem we_Tuple {elts n pos} {P : V → Own → Prop} (h : WEs w k env pos elts own fun vs o => vs.length < 16777216 ∧ P (.tup vs) o) : WE w k env (.Tuple elts n pos) own P := by
  intro A g s rest Q E c ok S i K
  refine wpAny_Tuple_spliced (h A g s rest _ _ c ok S i fun cs h1 tk1 g1 vs o1 h S1 l1 r1 => ⟨by rw [r1.length]; exact Nat.le_of_lt h.1, ?_⟩)
  obtain ⟨g2, S2, l2, e2⟩ := S1.pushF { cls := .type "tuple", data := .seq (List.toArray cs) }
  exact K (.ref h1.objs.size) _ tk1 g2 (.tup vs) o1 h.2 S2 (StaysIn.trans l1 l2) (VR.tup_iff.mpr ⟨_, cs, rfl, ⟨_, e2, rfl, 0, rfl⟩, r1.mono l2⟩)
theorem mem_app {p : Addr × O} {l r : Own} (h : p ∈ l) : p ∈ l ++ r := List.mem_append_left _ h
/-- a new owned object goes to the end of what is owned -/
theorem Sim.pushE {own rest : Own} {h g : Heap} (S : Sim w (own ++ rest) h g) (o : Obj) {x : O} (r : OR w g x o) (hf : o.isFreed = false := by rfl) : Sim w ((own ++ [(h.objs.size, x)]) ++ rest) (h.push o) g :=
  (S.pushO o r hf).perm (by
    have : (h.objs.size, x) :: (own ++ rest) = [(h.objs.size, x)] ++ (own ++ rest) := rfl
    rw [this, ← List.append_assoc]
    exact (List.perm_append_comm).append_right _)
theorem we_List {elts pos} {P : V → Own → Prop} (h : WEs w k env pos elts own fun vs o => vs.length < 16777216 ∧ ∀ a, P (.ref a) (o ++ [(a, .list vs)])) : WE w k env (.List elts pos) own P := by
  intro A g s rest Q E c ok S i K
  refine wpAny_List_spliced (h A g s rest _ _ c ok S i fun cs h1 tk1 g1 vs o1 h S1 l1 r1 => ⟨by rw [r1.length]; exact Nat.le_of_lt h.1, ?_⟩)
  exact K (.ref h1.objs.size) _ tk1 g1 (.ref h1.objs.size) _ (h.2 _) (S1.pushE _ ⟨cs, 0, rfl, r1⟩) l1 (VR.raw_iff.mpr rfl)
theorem we_Dict0 {pos} {P : V → Own → Prop} (h : ∀ a, P (.ref a) (own ++ [(a, .dict [])])) : WE w k env (.Dict [] [] pos) own P := by
  intro A g s rest Q E c ok S i K
  refine wpAny_Dict_empty (K (.ref s.heap.objs.size) _ s.toks g (.ref s.heap.objs.size) _ (h _) (S.pushE _ ?_) (StaysIn.refl _) (VR.raw_iff.mpr rfl))
  obtain ⟨o, ho, hd⟩ := Heap.dictOf_iff.mp (Heap.DictOf.new (knd := KI w) s.heap)
  rw [Heap.get?_push_size _ rfl] at ho
  cases ho
  exact ⟨[], hd, rfl⟩

-- subscripts
theorem we_Sub {value slice pos} {P : V → Own → Prop} (h : WE w k env value own fun v o1 => WE w k env slice o1 fun u o2 => W2 w k v u (subscriptTail value slice) (VR w) o2 P) : WE w k env (.Subscript value slice pos) own P := by
  intro A g s rest Q E c ok S i K
  refine PyProof.Rows.Subscript_ (h A g s rest _ _ c ok S i fun a h1 tk1 g1 v1 o1 h S1 l1 r1 => ?_)
  refine h A g1 _ rest _ _ () ok S1 trivial fun b h2 tk2 g2 v2 o2 h S2 l2 r2 => ?_
  exact h A g2 _ rest _ _ (a, b) ok S2 ⟨r1.mono l2, r2⟩ fun a h3 tk3 g3 v3 o3 h S3 l3 r3 => K a h3 tk3 g3 v3 o3 h S3 (StaysIn.trans (StaysIn.trans l1 l2) l3) r3

-- calls
noncomputable abbrev WCW (w : World) (k : Nat) (env : Env) (pos : Pos) (f : Value) (first : List Value) (args : List Expr) : Own → (V → Own → Prop) → Prop := Wg (γ := Unit) w k (fun _ _ => True) (fun _ => callWith pos f first (backTo pos (starEach args env)) []) (VR w)
theorem we_Call {func args pos} {P : V → Own → Prop} (h : WE w k env func own fun v o1 => ∃ f, v = .raw f ∧ WCW w k env pos f [] args o1 P) (he : eval (.Call func args [] pos) env = (do callWith pos (← eval func env) [] (backTo pos (starEach args env)) (backToKw pos (keywordEach [] env))) := by rfl) : WE w k env (.Call func args [] pos) own P := by
  intro A g s rest Q E c ok S i K
  refine PyProof.Rows.Call_ (h A g s rest _ _ c ok S i fun a h1 tk1 g1 v1 o1 h S1 l1 r1 => ?_) he
  obtain ⟨f, rfl, h⟩ := h
  rw [VR.raw_iff] at r1; subst r1
  exact h A g1 _ rest _ _ () ok S1 trivial fun a h3 tk3 g3 v3 o3 h S3 l3 r3 => K a h3 tk3 g3 v3 o3 h S3 (StaysIn.trans l1 l3) r3
theorem wcw_K {f : Value} {e : Expr} {r : List Expr} {pos} {P : V → Own → Prop} (hk : keepIn (Mine.K w.params) f = true) (h : WEs w k env pos (e :: r) own fun vs o1 => WC w k f vs o1 P)
    (he : starEach (e :: r) env = (false, eval e env) :: starEach r env := by rfl) (hplain : (backTo pos (starEach r env)).any (·.1) = false := by rfl) : WCW w k env pos f [] (e :: r) own P := by
  intro A g s rest Q E c ok S i K
  refine callWith_K (K := Mine.K w.params) (h₀ := g) S.base.1 hk (h A g s rest _ _ c ok S i fun a h1 tk1 g1 v1 o1 h S1 l1 r1 => ⟨(S1.base.1).keeps S1.sub, ?_⟩) he hplain
  exact h A g1 _ rest _ _ a ok S1 r1 fun a h3 tk3 g3 v3 o3 h S3 l3 r3 => K a h3 tk3 g3 v3 o3 h S3 (StaysIn.trans l1 l3) r3
theorem wcw_builtin {id : String} {e : Expr} {r : List Expr} {pos} {P : V → Own → Prop} (h : WEs w k env pos (e :: r) own fun vs o1 => WC w k (.builtin id) vs o1 P)
    (he : starEach (e :: r) env = (false, eval e env) :: starEach r env := by rfl) (hplain : (backTo pos (starEach r env)).any (·.1) = false := by rfl) : WCW w k env pos (.builtin id) [] (e :: r) own P := by
  intro A g s rest Q E c ok S i K
  refine PyProof.Rows.callWith_builtin1 (h A g s rest _ _ c ok S i fun a h1 tk1 g1 v1 o1 h S1 l1 r1 => ?_) he hplain
  exact h A g1 _ rest _ _ a ok S1 r1 fun a h3 tk3 g3 v3 o3 h S3 l3 r3 => K a h3 tk3 g3 v3 o3 h S3 (StaysIn.trans l1 l3) r3
theorem wcw_type {T : String} {e : Expr} {r : List Expr} {pos} {P : V → Own → Prop} (h : WEs w k env pos (e :: r) own fun vs o1 => WC w k (.type T) vs o1 P)
    (he : starEach (e :: r) env = (false, eval e env) :: starEach r env := by rfl) (hplain : (backTo pos (starEach r env)).any (·.1) = false := by rfl) : WCW w k env pos (.type T) [] (e :: r) own P := by
  intro A g s rest Q E c ok S i K
  refine PyProof.Rows.callWith_type1 (h A g s rest _ _ c ok S i fun a h1 tk1 g1 v1 o1 h S1 l1 r1 => ?_) he hplain
  exact h A g1 _ rest _ _ a ok S1 r1 fun a h3 tk3 g3 v3 o3 h S3 l3 r3 => K a h3 tk3 g3 v3 o3 h S3 (StaysIn.trans l1 l3) r3
-- built-ins
theorem wc_divmod {i j : Int} {P : V → Own → Prop} (h : P (.tup [.int (i.fdiv j), .int (i.fmod j)]) own) (hj : j ≠ 0) (hs : j.natAbs < 1073741824) : WC w k (.builtin "divmod") [.int i, .int j] own P := by
  intro A g s rest Q E c ok S r K
  obtain ⟨x, r1, rfl, hx, hr⟩ := VRs.cons_iff.mp r
  obtain ⟨y, r2, rfl, hy, hr⟩ := VRs.cons_iff.mp hr
  rw [VRs.nil_iff] at hr; subst hr
  obtain ⟨t, rfl⟩ := VR.int_iff.mp hx; obtain ⟨u, rfl⟩ := VR.int_iff.mp hy
  obtain ⟨g2, S2, l2, e2⟩ := S.pushF { cls := .type "tuple", data := .seq #[.int (i.fdiv j) s.toks, .int (i.fmod j) (s.toks + 1)] }
  refine PyProof.Rows.divmod_int hj (K (.ref s.heap.objs.size) _ _ g2 _ _ h S2 l2 (VR.tup_iff.mpr ⟨_, [_, _], rfl, ⟨_, e2, rfl, 0, rfl⟩, ?_⟩)) (.inl (PyProof.noPylong_small hs))
  exact VRs.cons_iff.mpr ⟨_, _, rfl, VR.int_iff.mpr ⟨_, rfl⟩, VRs.cons_iff.mpr ⟨_, _, rfl, VR.int_iff.mpr ⟨_, rfl⟩, VRs.nil_iff.mpr rfl⟩⟩
theorem wc_len {a : Addr} {vs : List V} {P : V → Own → Prop} (h : P (.int vs.length) own) (hm : (a, O.list vs) ∈ own) (hf : vs.length < 2 ^ 62) : WC w k (.builtin "len") [.ref a] own P := by
  intro A g s rest Q E c ok S r K
  obtain ⟨x, r1, rfl, hx, hr⟩ := VRs.cons_iff.mp r
  rw [VRs.nil_iff] at hr; subst hr
  rw [VR.raw_iff] at hx; subst hx
  obtain ⟨cvs, n, ho, r⟩ := ent_list S (mem_app hm)
  have hl : s.heap.IsList a (List.toArray cvs) := ⟨_, ho, rfl, n, rfl⟩
  refine call_len_list hl (by rw [List.size_toArray, r.length]; omega) (K _ s.heap _ g _ _ h S (StaysIn.refl _) (VR.int_iff.mpr ⟨s.toks + 1, ?_⟩))
  rw [List.size_toArray, r.length]
theorem wc_isi {i : Int} {P : V → Own → Prop} (h : P (.bool false) own) : WC w k (.builtin "isinstance") [.int i, .raw (.type "tuple")] own P := by
  intro A g s rest Q E c ok S r K
  obtain ⟨x, r1, rfl, hx, hr⟩ := VRs.cons_iff.mp r
  obtain ⟨y, r2, rfl, hy, hr⟩ := VRs.cons_iff.mp hr
  rw [VRs.nil_iff] at hr; subst hr
  obtain ⟨t, rfl⟩ := VR.int_iff.mp hx
  rw [VR.raw_iff] at hy; subst hy
  exact IsiPair.int_tuple (K _ s.heap _ g _ _ h S (StaysIn.refl _) (VR.raw_iff.mpr rfl))
noncomputable def rangeO (a b : Int) : O := .such fun o => ∃ t u v, o = { cls := .type "range", data := .fields #[.int a t, .int b u, .int 1 v] }
theorem wc_range1 {n : Int} {P : V → Own → Prop} (h : ∀ r, P (.ref r) (own ++ [(r, rangeO 0 n)])) : WC w k (.type "range") [.int n] own P := by
  intro A g s rest Q E c ok S r K
  obtain ⟨x, r1, rfl, hx, hr⟩ := VRs.cons_iff.mp r
  rw [VRs.nil_iff] at hr; subst hr
  obtain ⟨t, rfl⟩ := VR.int_iff.mp hx
  exact call_range_1 (K _ _ _ g (.ref s.heap.objs.size) _ (h _) (S.pushE _ ⟨_, _, _, rfl⟩) (StaysIn.refl _) (VR.raw_iff.mpr rfl))
theorem wc_range2 {m n : Int} {P : V → Own → Prop} (h : ∀ r, P (.ref r) (own ++ [(r, rangeO m n)])) : WC w k (.type "range") [.int m, .int n] own P := by
  intro A g s rest Q E c ok S r K
  obtain ⟨x, r1, rfl, hx, hr⟩ := VRs.cons_iff.mp r
  obtain ⟨y, r2, rfl, hy, hr⟩ := VRs.cons_iff.mp hr
  rw [VRs.nil_iff] at hr; subst hr
  obtain ⟨t, rfl⟩ := VR.int_iff.mp hx
  obtain ⟨u, rfl⟩ := VR.int_iff.mp hy
  exact call_range_2 (K _ _ _ g (.ref s.heap.objs.size) _ (h _) (S.pushE _ ⟨_, _, _, rfl⟩) (StaysIn.refl _) (VR.raw_iff.mpr rfl))
noncomputable def revO (l : Addr) (i : Int) : O := .such fun o => o.cls = .type "list_reverseiterator" ∧ o.data = .fields #[.ref l, rawInt i]
theorem wc_reversed {a : Addr} {vs : List V} {P : V → Own → Prop} (hm : (a, O.list vs) ∈ own) (h : ∀ r, P (.ref r) (own ++ [(r, revO a ((vs.length : Int) - 1))])) : WC w k (.type "reversed") [.ref a] own P := by
  intro A g s rest Q E c ok S r K
  obtain ⟨x, r1, rfl, hx, hr⟩ := VRs.cons_iff.mp r
  rw [VRs.nil_iff] at hr; subst hr
  rw [VR.raw_iff] at hx; subst hx
  obtain ⟨cvs, n, ho, r⟩ := ent_list S (mem_app hm)
  have hl : s.heap.IsList a (List.toArray cvs) := ⟨_, ho, rfl, n, rfl⟩
  refine call_reversed_list hl (K _ _ s.toks g (.ref s.heap.objs.size) _ (h _) (S.pushE _ ⟨rfl, ?_⟩) (StaysIn.refl _) (VR.raw_iff.mpr rfl))
  simp [revObj, r.length]

-- methods
theorem we_append {o e apos pos} {P : V → Own → Prop} (h : WE w k env o own fun v o1 => ∃ a vs, v = .ref a ∧ (a, O.list vs) ∈ o1 ∧ WE w k env e o1 fun u o2 => ∃ vs own', At a (.list vs) (.list (vs ++ [u])) o2 own' ∧ vs.length < 16777216 ∧ P .non own')
    (hbase : attributeBase o "append" env (eval o env) = eval o env := by rfl)
    (hfew : ((backTo pos (starEach [e] env)).all (fun x => !x.1) && (backToKw pos (keywordEach [] env)).all (fun x => x.1.isSome) && decide (([e] : List Expr).length + ([] : List Keyword).length + (if ([] : List Keyword).isEmpty then 0 else 1) < 30)) = true := by rfl)
    (hline : (apos.endLine == pos.line) = true := by rfl) (htrees : backTo pos (starEach [e] env) = [(false, eval e env)] := by rfl) : WE w k env (.Call (.Attribute o "append" apos) [e] [] pos) own P := by
  intro A g s rest Q E c ok S i K
  refine wpAny_Call_append hbase hfew hline htrees (h A g s rest _ _ c ok S i fun a h1 tk1 g1 v1 o1 h S1 l1 r1 => ?_)
  obtain ⟨a, vs, rfl, hm, h⟩ := h
  rw [VR.raw_iff] at r1; subst r1
  obtain ⟨cvs, n, ho, r⟩ := ent_list S1 (mem_app hm)
  refine ⟨a, _, rfl, ⟨_, n, ho, rfl, rfl, rfl⟩, h A g1 _ rest _ _ () ok S1 trivial fun b h2 tk2 g2 u o2 h S2 l2 r2 => ?_⟩
  obtain ⟨us, own', m, hlen, hP⟩ := h
  obtain ⟨_, ho2, ds, n2, rfl, rd⟩ := S2.at (m.append rest)
  refine wpAny_list_append_plain ⟨n2, ho2⟩ (fun h' hl hs => ?_) (by rw [List.size_toArray, rd.length]; exact Nat.le_of_lt hlen)
  obtain ⟨n3, ho3⟩ := hl
  refine K .none h' tk2 g2 .non _ hP (S2.turnAt (m.append rest) hs ho3 ⟨ds ++ [b], n3, by simp, VRs.append rd (VRs.cons_iff.mpr ⟨b, [], rfl, r2, VRs.nil_iff.mpr rfl⟩)⟩) (StaysIn.trans l1 l2) (VR.raw_iff.mpr rfl)
theorem we_bit_length {o apos pos} {P : V → Own → Prop} (h : WE w k env o own fun v o1 => ∃ i, v = .int i ∧ P (.int (Builtin.Int.intBits i : Nat)) o1)
    (hbase : attributeBase o "bit_length" env (eval o env) = eval o env := by rfl) (hline : (apos.endLine == pos.line) = true := by rfl) : WE w k env (.Call (.Attribute o "bit_length" apos) [] [] pos) own P := by
  intro A g s rest Q E c ok S i K
  refine Call_method0 hbase hline (h A g s rest _ _ c ok S i fun a h1 tk1 g1 v1 o1 h S1 l1 r1 => ?_)
  obtain ⟨i, rfl, hP⟩ := h
  obtain ⟨t, rfl⟩ := VR.int_iff.mp r1
  refine ⟨"int", "int.bit_length", F.plainAttrs_int, PyProof.Rows.slot_int_bit_length, PyProof.Rows.type_int_bit_length, typeIs_int _ _ _, (fun _ e => by cases e), ?_⟩
  exact callWith_method0 (env := env) (PyProof.Rows.call_int_bit_length (K _ _ _ g1 _ _ hP S1 l1 (VR.int_iff.mpr ⟨_, rfl⟩)))
end
end Mine

-- A5
namespace Mine
open PySem PySem.W PySem.Calls PyProof.Rows

noncomputable def retV : FV → V
  | .ret v => v
  | _ => .non

theorem zip_keys {α β γ : Type} : ∀ (ns : List α) (a : List β) (b : List γ), a.length = b.length → (ns.zip a).map (·.1) = (ns.zip b).map (·.1)
  | [], _, _, _ => by simp
  | _ :: _, [], [], _ => by simp
  | _ :: _, [], _ :: _, e => by cases e
  | _ :: _, _ :: _, [], e => by cases e
  | n :: ns, a :: as, b :: bs, e => by simp [zip_keys ns as bs (by simpa using e)]
theorem zip_rev_lookup {w : World} {g : Heap} : ∀ {names : List Str} {vs : List V} {cs : List Value} {x : Str} {v : V}, VRs w g vs cs → (names.zip vs).reverse.lookup x = some v → ∃ c, (names.zip cs).reverse.lookup x = some c ∧ VR w g v c
  | [], _, _, _, _, _, h => by simp at h
  | n :: ns, [], _, _, _, _, h => by simp at h
  | n :: ns, u :: us, cs, x, v, r, h => by
    obtain ⟨c, cs', rfl, hc, hr⟩ := VRs.cons_iff.mp r
    simp only [List.zip_cons_cons, List.reverse_cons, List.lookup_append] at h ⊢
    cases hq : List.lookup x (ns.zip us).reverse with
    | some v' =>
      rw [hq] at h
      obtain ⟨c', e1, e2⟩ := zip_rev_lookup hr hq
      rw [e1]
      cases h
      exact ⟨c', rfl, e2⟩
    | none =>
      rw [hq] at h
      have hn : List.lookup x (ns.zip cs').reverse = none := by
        have key : ∀ {β : Type} (us : List β), us.length = us.length → ∀ (k : List (Str × β)), List.lookup x k = none ↔ x ∉ k.map (·.1) := by
          intro β _ _ k
          induction k with
          | nil => simp
          | cons p r ih =>
            simp only [List.lookup, List.map_cons, List.mem_cons, not_or]
            by_cases q : (x == p.1) = true
            · rw [q]; have := eq_of_beq q; simp [this]
            · have q0 : (x == p.1) = false := by simpa using q
              rw [q0]
              rw [ih]
              have : x ≠ p.1 := fun e => q (by rw [e]; exact beq_self_eq_true _)
              simp [this]
        rw [key cs' rfl]
        rw [key us rfl] at hq
        intro hm
        apply hq
        rw [List.map_reverse, List.mem_reverse] at hm ⊢
        have hl := hr.length
        rw [zip_keys ns cs' us hl] at hm
        exact hm
      rw [hn]
      simp only [Option.none_or, List.lookup] at h ⊢
      cases q : (x == n) with
      | true => rw [q] at h; cases h; exact ⟨c, rfl, hc⟩
      | false => rw [q] at h; cases h

section
variable {w : World} {k : Nat} {own : Own}

theorem call_core {A : Around} {g : Heap} {s : Shared} {rest : Own} {Q : Value → Shared → Prop} {E : Value → Shared → Prop} {cvs : List Value} {f : Addr} {o : Obj} {fd : FuncData} {body : List Stmt} {names : List Str} {vs : List V} {ks : List (Str × V)} {P : V → Own → Prop}
    (ok : Ok A (k + 2)) (S : Sim w (own ++ rest) s.heap g) (r : VRs w g vs cvs) (ho : s.heap.get? f = some o) (hd : o.data = .func fd) (hcode : s.heap.CodeRec fd.code fd.qualname) (hbody : fd.body = .stmts body)
    (hb : bindArgs fd ⟨cvs, []⟩ = pure (names.zip cvs)) (hks : (names.zip vs).reverse = ks)
    (hloc : ∀ x ∈ names, fd.scope.names.lookup x = some .local) (hcell : ∀ x ∈ fd.scope.names, x.2 ≠ .cell)
    (h : ∀ L, WSs w k (callEnv fd L f) body ((L, .frame ks) :: own) fun fl o => ∃ F o', o = (L, F) :: o' ∧ P (retV fl) o')
    (K : ∀ a h' tk g' b own', P b own' → Sim w (own' ++ rest) h' g' → g.StaysIn g' → VR w g' b a → Q a { s with heap := h', toks := tk })
    (hco : fd.scope.isCoroutine = false) (hgen : fd.scope.isGenerator = false) (hk : fd.scope.kind = .function) : wpAny (model PG w) A (call (.ref f) cvs) Q E s := by
  obtain ⟨X, _, _, _, mg, mb, T, _⟩ := S.base
  refine wpAny_call (codeAny_call_def (binds := names.zip cvs) (by have := ok.2.1; omega) ho hd ((T.nolimit).keeps S.sub) hcode hbody (BindsTo.of_eq hb) hcell (fun x hx => hloc _ (List.of_mem_zip hx).1) (fun h₁ hns hk₁ => ?_) hco hgen hk)
  obtain ⟨oL, es, ep, hoL, hdL, hkL, hmL⟩ := hns
  have S1 : Sim w (((s.heap.objs.size, O.frame ks) :: own) ++ rest) h₁ g := by
    refine (S.ext hk₁).cons S.three S.fresh_none hoL ⟨es, ep, hdL, hkL, fun x v e => ?_⟩ fun q => ?_
    · rw [hmL]
      rw [← hks] at e
      exact zip_rev_lookup r e
    · obtain ⟨p, hp, e⟩ := List.mem_map.mp q
      exact absurd (S.lt hp) (e ▸ Nat.lt_irrefl _)
  refine h s.heap.objs.size (A.deeper (callEnv fd s.heap.objs.size f)) g { s with heap := h₁, toks := _ } rest _ _ () (Ok.deeper (Ok.le ok (by omega))) S1 trivial fun fl h2 tk2 g2 fv o2 hP S2 l2 r2 => ?_
  obtain ⟨F, o', rfl, hP⟩ := hP
  have S3 : Sim w (o' ++ rest) h2 g2 := S2.sublist (List.sublist_cons_self _ _)
  cases fv with
  | next => cases r2; exact K .none h2 tk2 g2 _ o' hP S3 l2 (VR.raw_iff.mpr rfl)
  | brk => cases r2; exact K .none h2 tk2 g2 _ o' hP S3 l2 (VR.raw_iff.mpr rfl)
  | cont => cases r2; exact K .none h2 tk2 g2 _ o' hP S3 l2 (VR.raw_iff.mpr rfl)
  | ret v => obtain ⟨c, rfl, r2⟩ := r2; exact K c h2 tk2 g2 _ o' hP S3 l2 r2

/-- a call of one of the program's own defs -/
theorem wc_def {f : Addr} {oc : Value} {od : Option Addr} {osl : Array (Option Value)} {fd : FuncData} {body : List Stmt} {names : List Str} {vs : List V} {ks : List (Str × V)} {P : V → Own → Prop}
    (hl : (Mine.K w.params).lookup f = some ⟨oc, od, .func fd, osl⟩) (hcode : codeIn (Mine.K w.params) fd.code fd.qualname = true) (hbody : fd.body = .stmts body)
    (hb : ∀ cvs, cvs.length = vs.length → bindArgs fd ⟨cvs, []⟩ = pure (names.zip cvs)) (hks : (names.zip vs).reverse = ks)
    (hloc : ∀ x ∈ names, fd.scope.names.lookup x = some .local) (hcell : ∀ x ∈ fd.scope.names, x.2 ≠ .cell)
    (h : ∀ L, WSs w k (callEnv fd L f) body ((L, .frame ks) :: own) fun fl o => ∃ F o', o = (L, F) :: o' ∧ P (retV fl) o')
    (hco : fd.scope.isCoroutine = false := by rfl) (hgen : fd.scope.isGenerator = false := by rfl) (hk : fd.scope.kind = .function := by rfl) : WC w (k + 2) (.ref f) vs own P := by
  intro A g s rest Q E cvs ok S r K
  exact call_core ok S r ((S.base.1.keeps S.sub) _ _ hl) rfl (codeRec_of (S.base.1.keeps S.sub) hcode) hbody (hb cvs r.length) hks hloc hcell h K hco hgen hk
end
end Mine

-- A6
namespace Mine
open PySem PySem.W PySem.Calls PyProof.Rows

noncomputable def OptR (w : World) (g : Heap) : Option V → Option Value → Prop
  | none, c => c = none
  | some v, c => ∃ x, c = some x ∧ VR w g v x
noncomputable def dropP {β : Type} (P : β → Own → Prop) : β → Own → Prop := fun b o => ∃ o', List.Sublist o' o ∧ P b o'

section
variable {w : World} {k : Nat} {env : Env} {own : Own}
theorem Wg.dropPost {γ α β : Type} {In : Heap → γ → Prop} {t : γ → Sem α} {Rel : Heap → β → α → Prop} {P : β → Own → Prop} (h : Wg w k In t Rel own (dropP P)) : Wg w k In t Rel own P :=
  fun A g s rest Q E c ok S i K => h A g s rest Q E c ok S i fun a h' tk g' b own' ⟨o', hs, hP⟩ S' => K a h' tk g' b o' hP (S'.sublist (List.Sublist.append_right hs _))
/-- the next item, and what the loop lets go of it -/
noncomputable def WNext (w : World) (k : Nat) (target : Expr) (it : Value) (own : Own) (P : Option V → Own → Prop) : Prop :=
  ∀ (A : Around) (g : Heap) (s : Shared) (rest : Own) (Q : Option Value → Shared → Prop) (E E' : Value → Shared → Prop), Ok A k → Sim w (own ++ rest) s.heap g →
    (∀ a h' tk g' b own', P b own' → Sim w (own' ++ rest) h' g' → g.StaysIn g' → OptR w g' b a → Q a { s with heap := h', toks := tk }) →
    wpAny (model PG w) A (pyNext it) (fun r s₁ => match r with
      | none => Q none s₁
      | some c => wpAny (model PG w) A (letOwnedTupleGo target it c) (fun _ s₂ => Q (some c) s₂) E' s₁) E s

theorem ws_For {target iter : Expr} {body orelse : List Stmt} {pos} {P : FV → Own → Prop} (n : Nat) (J : Value → Nat → Own → Prop)
    (h : WE w k env iter own fun v o1 => W1 w k v pyIter (VR w) o1 fun u o2 => ∃ it, u = .raw it ∧ J it 0 o2)
    (turn : ∀ it i o, i ≤ n → J it i o → WNext w k target it o fun ov o1 => match ov with
      | none => WSs w k env orelse o1 (dropP P)
      | some v => i < n ∧ WA w k env target v o1 fun _ o3 => WSs w k env body o3 (loopP (dropP P) (J it (i + 1))))
    (hs : ∀ x, foldedSetIterable iter env x = pure x := by intro _; rfl) : WS w k env (.For target iter body orelse pos) own P := by
  apply Wg.dropPost
  intro A g s rest Q E c ok S i K
  refine wpAny_For (h A g s rest _ _ c ok S i fun a h1 tk1 g1 v1 o1 h S1 l1 r1 => ?_) hs
  refine h A g1 _ rest _ _ a ok S1 r1 fun b h2 tk2 g2 u o2 h S2 l2 r2 => ?_
  obtain ⟨it, rfl, hJ⟩ := h
  rw [VR.raw_iff] at r2; subst r2
  let I : Nat → Shared → Prop := fun m s' => ∃ i o h' tk g', m = n + 1 - i ∧ i ≤ n ∧ J b i o ∧ s' = { s with heap := h', toks := tk } ∧ Sim w (o ++ rest) h' g' ∧ g.StaysIn g'
  let R : Result → Shared → Prop := fun r s' => match r with | .ok f => Q f s' | .error e => cameBackBy (model PG w) A env E e s'
  let EE : Value → Shared → Prop := notedBy (model PG w) A env fun e s' => R (.error e) s'
  refine codeAny_forLoop_any (R := R) I ?_ (n + 1) ⟨0, o2, h2, tk2, g2, rfl, Nat.zero_le _, hJ, rfl, S2, StaysIn.trans l1 l2⟩
  rintro m s' ⟨i, o, h', tk, g', rfl, hi, hJ, rfl, S', l'⟩
  let Qn : Option Value → Shared → Prop := fun r s₁ => match r with
    | none => wpAny (model PG w) A (execs orelse env) (fun f s₃ => R (.ok f) s₃) EE s₁
    | some v => wpAny (model PG w) A (assign target env v) (fun _ s₂ => wpAny (model PG w) A (execs body env) (fun f s₃ => match f with
      | .next | .cont => ∃ m, m < n + 1 - i ∧ I m s₃
      | .brk => R (.ok .next) s₃
      | .ret v => R (.ok (.ret v)) s₃) EE s₂) EE s₁
  refine wpAny_mono (turn b i o hi hJ A g' _ rest Qn EE EE ok S' fun ov h3 tk3 g3 v3 o3 h S3 l3 r3 => ?_) (fun r s₁ x => by cases r <;> exact x) fun _ _ x => x
  cases v3 with
  | none =>
    have e : ov = none := r3
    subst e
    exact h A g3 _ rest _ _ () ok S3 trivial fun a h4 tk4 g4 v4 o4 h S4 l4 r4 => K a h4 tk4 g4 v4 o4 h S4 (StaysIn.trans (StaysIn.trans l' l3) l4) r4
  | some v =>
    obtain ⟨x, rfl, r3⟩ := r3
    obtain ⟨hlt, h⟩ := h
    refine h A g3 _ rest _ _ x ok S3 r3 fun _ h5 tk5 g5 _ o5 h S5 l5 _ => ?_
    refine h A g5 _ rest _ _ () ok S5 trivial fun f h6 tk6 g6 fv o6 h S6 l6 r6 => ?_
    have l := StaysIn.trans (StaysIn.trans l' l3) (StaysIn.trans l5 l6)
    cases fv with
    | next => cases r6; exact ⟨n + 1 - (i + 1), by omega, i + 1, o6, h6, tk6, g6, rfl, by omega, h, rfl, S6, l⟩
    | cont => cases r6; exact ⟨n + 1 - (i + 1), by omega, i + 1, o6, h6, tk6, g6, rfl, by omega, h, rfl, S6, l⟩
    | brk => cases r6; exact K _ h6 tk6 g6 .next o6 h S6 l rfl
    | ret v => obtain ⟨c, rfl, r6⟩ := r6; exact K _ h6 tk6 g6 (.ret v) o6 h S6 l ⟨c, rfl, r6⟩

/-- the targets that we meet: a name, or a tuple of targets upon tuples -/
noncomputable def TargetOk (target : Expr) (vs : List V) : Prop := (∃ x p, target = .Name x p) ∨ (∃ es n p, target = .Tuple es n p ∧ ∀ v ∈ vs, ∃ us, v = .tup us)

/-- the frame rule for a turn with the iterator's entries at the end -/
theorem turn_frame {target : Expr} {body : List Stmt} {v : V} {P : FV → Own → Prop} {I J : Own → Prop} {own more : Own}
    (h : WA w k env target v own fun _ o1 => WSs w k env body o1 (loopP P I)) (hI : ∀ o, I o → J (o ++ more)) :
    WA w k env target v (own ++ more) fun _ o3 => WSs w k env body o3 (loopP (dropP P) J) :=
  Wg.mono (Wg.frame more h) fun _ o ⟨o', e, h'⟩ => by
    subst e
    exact Wg.mono (Wg.frame more h') fun f o ⟨o'', e, h''⟩ => by
      subst e
      cases f with
      | next => exact hI _ h''
      | cont => exact hI _ h''
      | brk => exact ⟨o'', List.sublist_append_left _ _, h''⟩
      | ret v => exact ⟨o'', List.sublist_append_left _ _, h''⟩

noncomputable def liO (l : Addr) (i : Nat) : O := .such fun o => o.cls = .type "list_iterator" ∧ o.data = .fields #[.ref l, .int i 0]
theorem at_end {a : Addr} {x y : O} : ∀ {own : Own}, At a x y (own ++ [(a, x)]) (own ++ [(a, y)])
  | [] => .head
  | _ :: _ => .tail at_end

theorem ws_For_list {target iter : Expr} {body : List Stmt} {pos} {l : Addr} {vs : List V} {P : FV → Own → Prop} (Inv : Nat → Own → Prop)
    (h : WE w k env iter own fun v o1 => v = .ref l ∧ Inv 0 o1) (hm : ∀ i o, Inv i o → (l, O.list vs) ∈ o)
    (turn : ∀ i v o, vs[i]? = some v → Inv i o → WA w k env target v o fun _ o1 => WSs w k env body o1 (loopP P (Inv (i + 1))))
    (done : ∀ o, Inv vs.length o → P .next o) (ht : TargetOk target vs)
    (hs : ∀ x, foldedSetIterable iter env x = pure x := by intro _; rfl) : WS w k env (.For target iter body [] pos) own P := by
  refine ws_For vs.length (fun it i o => ∃ I o', it = .ref I ∧ o = o' ++ [(I, liO l i)] ∧ Inv i o') (h.mono fun v o ⟨e, hI⟩ => ?_) (fun it i o hi hJ => ?_) hs
  · subst e
    intro A g s rest Q E c ok S r K
    rw [VR.raw_iff] at r; subst r
    obtain ⟨cvs, n, ho, r⟩ := ent_list S (mem_app (hm 0 o hI))
    have hl : s.heap.IsList l (List.toArray cvs) := ⟨_, ho, rfl, n, rfl⟩
    exact wpAny_pyIter_list hl (K _ _ s.toks g (.ref s.heap.objs.size) _ ⟨_, rfl, _, o, rfl, rfl, hI⟩ (S.pushE _ ⟨rfl, rfl⟩) (StaysIn.refl _) (VR.raw_iff.mpr rfl))
  · obtain ⟨I, o', rfl, rfl, hI⟩ := hJ
    intro A g s rest Q E E' ok S K
    obtain ⟨cvs, n, ho, r⟩ := ent_list S (mem_app (mem_app (hm i o' hI)))
    have hl : s.heap.IsList l (List.toArray cvs) := ⟨_, ho, rfl, n, rfl⟩
    obtain ⟨oi, hoi, hc, hd⟩ := S.at (at_end (own := o') (a := I) (x := liO l i) (y := liO l (i + 1)) |>.append rest)
    have hit : s.heap.IsListIter I l i := ⟨oi, hoi, hc, hd⟩
    cases hx : vs[i]? with
    | none =>
      have hii : i = vs.length := by have := List.getElem?_eq_none_iff.mp hx; omega
      subst hii
      refine wpAny_pyNext_list_end ok.1 hit hl (by simpa using r.get_none hx) fun h' hb => ?_
      have e : ∀ p ∈ o' ++ rest, ∀ ob, s.heap.get? p.1 = some ob → h'.get? p.1 = some ob := fun p hp ob e => hb _ _ (fun q => by
        have nd := S.nd
        simp only [List.map_append, List.map_cons, List.map_nil, List.append_assoc, List.cons_append, List.nil_append] at nd
        rw [List.nodup_append, List.nodup_cons] at nd
        rcases List.mem_append.mp hp with hp | hp
        · exact nd.2.2 _ (List.mem_map_of_mem hp) I (.head _) q
        · exact nd.2.1.1 (q ▸ List.mem_map_of_mem hp)) e
      have S1 : Sim w (o' ++ rest) s.heap g := S.sublist (List.Sublist.append_right (List.sublist_append_left _ _) _)
      have S2 : Sim w (o' ++ rest) h' g := S1.grow (StaysIn.refl _) (fun b ob e => hb b ob (fun q => by
        have := (S.ent (I, liO l vs.length) (by simp)).2.1
        rw [q, this] at e; cases e) (S1.sub _ _ e)) e (fun p hp => (S1.ent p hp).2.1)
      exact K none h' s.toks g none o' (wss_nil ⟨o', List.Sublist.refl _, done _ hI⟩) S2 (StaysIn.refl _) rfl
    | some v =>
      obtain ⟨x, hcx, rx⟩ := r.get hx
      refine wpAny_pyNext_list_item hit hl (by simpa using hcx) fun h' hit' hsb => ?_
      obtain ⟨oi', hoi', hc', hd'⟩ := hit'
      have S1 := S.turnAt (at_end (own := o') (a := I) (x := liO l i) (y := liO l (i + 1)) |>.append rest) hsb hoi' ⟨hc', hd'⟩
      have T := turn_frame (more := [(I, liO l (i + 1))]) (turn i v o' hx hI) (J := fun o => ∃ I' o', Value.ref I = .ref I' ∧ o = o' ++ [(I', liO l (i + 1))] ∧ Inv (i + 1) o') fun o ho => ⟨I, o, rfl, rfl, ho⟩
      have K1 := K (some x) h' s.toks g (some v) (o' ++ [(I, liO l (i + 1))]) ⟨(List.getElem?_eq_some_iff.mp hx).1, T⟩ S1 (StaysIn.refl _) ⟨x, rfl, rx⟩
      rcases ht with ⟨y, p, rfl⟩ | ⟨es, n, p, rfl, hv⟩
      · exact wpAny_pure K1
      · obtain ⟨us, rfl⟩ := hv v (List.mem_of_getElem? hx)
        obtain ⟨a, _, rfl, _⟩ := VR.tup_iff.mp rx
        exact wpAny_letOwnedTupleGo_listiter ⟨oi', hoi', hc', hd'⟩ K1
end
end Mine

-- A7
namespace Mine
open PySem PySem.W PySem.Calls PyProof.Rows

theorem Sim.turns {w : World} {pre mid mid' rest : Own} {h h' g : Heap} (S : Sim w ((pre ++ mid) ++ rest) h g) (ha : mid'.map (·.1) = mid.map (·.1)) (hk : ∀ b o, b ∉ mid.map (·.1) → h.get? b = some o → h'.get? b = some o)
    (he : ∀ p ∈ mid', ∃ o, h'.get? p.1 = some o ∧ OR w g p.2 o) : Sim w ((pre ++ mid') ++ rest) h' g := by
  have hg : ∀ b o, g.get? b = some o → b ∉ mid.map (·.1) := fun b o e q => by
    obtain ⟨p, hp, rfl⟩ := List.mem_map.mp q
    rw [(S.ent p (by simp [hp])).2.1] at e; cases e
  have nd := S.nd
  refine ⟨S.base, fun b o e => hk b o (hg b o e) (S.sub b o e), fun p hp => ?_, by simpa [ha] using nd⟩
  have out : p ∈ pre ++ rest → 3 < p.1 ∧ g.get? p.1 = none ∧ ∃ o, h'.get? p.1 = some o ∧ OR w g p.2 o := fun hp => by
    have hm : p ∈ (pre ++ mid) ++ rest := by
      rcases List.mem_append.mp hp with hp | hp
      · exact List.mem_append_left _ (List.mem_append_left _ hp)
      · exact List.mem_append_right _ hp
    obtain ⟨a, b, o, c, d⟩ := S.ent p hm
    refine ⟨a, b, o, hk _ _ (fun q => ?_) c, d⟩
    rw [List.map_append, List.map_append, List.append_assoc, List.nodup_append, List.nodup_append] at nd
    rcases List.mem_append.mp hp with hp | hp
    · exact nd.2.2 _ (List.mem_map_of_mem hp) p.1 (List.mem_append_left _ q) rfl
    · exact nd.2.1.2.2 _ q p.1 (List.mem_map_of_mem hp) rfl
  rcases List.mem_append.mp hp with hp | hp
  · rcases List.mem_append.mp hp with hp | hp
    · exact out (List.mem_append_left _ hp)
    · have q : p.1 ∈ mid.map (·.1) := ha ▸ List.mem_map_of_mem hp
      obtain ⟨p', hp', e⟩ := List.mem_map.mp q
      have := S.ent p' (by simp [hp'])
      rw [e] at this
      exact ⟨this.1, this.2.1, he p hp⟩
  · exact out (List.mem_append_right _ hp)
theorem Sim.drops {w : World} {pre mid rest : Own} {h h' g : Heap} (S : Sim w ((pre ++ mid) ++ rest) h g) (hk : ∀ b o, b ∉ mid.map (·.1) → h.get? b = some o → h'.get? b = some o) : Sim w (pre ++ rest) h' g := by
  have hg : ∀ b o, g.get? b = some o → b ∉ mid.map (·.1) := fun b o e q => by
    obtain ⟨p, hp, rfl⟩ := List.mem_map.mp q
    rw [(S.ent p (by simp [hp])).2.1] at e; cases e
  have nd := S.nd
  have S1 : Sim w (pre ++ rest) h g := S.sublist (List.Sublist.append_right (List.sublist_append_left _ _) _)
  refine S1.grow (StaysIn.refl _) (fun b o e => hk b o (hg b o e) (S.sub b o e)) (fun p hp o e => hk _ _ (fun q => ?_) e) fun p hp => (S1.ent p hp).2.1
  rw [List.map_append, List.map_append, List.append_assoc, List.nodup_append, List.nodup_append] at nd
  rcases List.mem_append.mp hp with hp | hp
  · exact nd.2.2 _ (List.mem_map_of_mem hp) p.1 (List.mem_append_left _ q) rfl
  · exact nd.2.1.2.2 _ q p.1 (List.mem_map_of_mem hp) rfl
theorem Sim.fullAt {w : World} {own : Own} {h g : Heap} (S : Sim w own h g) {a : Addr} {o : Obj} (ha : h.get? a = some o) (hn : ∀ p ∈ own, p.1 ≠ a) : ∃ g', Sim w own h g' ∧ g.StaysIn g' ∧ g'.get? a = some o :=
  ⟨_, S.full.1, S.full.2, hideAll_get _ ha fun q => by obtain ⟨p, hp, e⟩ := List.mem_map.mp q; exact hn p hp e⟩

section
variable {w : World} {k : Nat} {env : Env} {own : Own}

theorem at_last {h g : Heap} {own rest : Own} {p : Addr × O} (S : Sim w ((own ++ [p]) ++ rest) h g) : ∃ o, h.get? p.1 = some o ∧ OR w g p.2 o := (S.ent p (by simp)).2.2

/-- for x in reversed(list) -/
theorem ws_For_rev {x : Str} {xp : Pos} {iter : Expr} {body : List Stmt} {pos} {l : Addr} {vs : List V} {P : FV → Own → Prop} (Inv : Nat → Own → Prop)
    (h : WE w k env iter own fun v o1 => ∃ r o, v = .ref r ∧ o1 = o ++ [(r, revO l ((vs.length : Int) - 1))] ∧ Inv 0 o) (hm : ∀ i o, Inv i o → (l, O.list vs) ∈ o)
    (turn : ∀ i v o, vs.reverse[i]? = some v → Inv i o → WA w k env (.Name x xp) v o fun _ o1 => WSs w k env body o1 (loopP P (Inv (i + 1))))
    (done : ∀ o, Inv vs.length o → P .next o)
    (hs : ∀ x, foldedSetIterable iter env x = pure x := by intro _; rfl) : WS w k env (.For (.Name x xp) iter body [] pos) own P := by
  refine ws_For vs.length (fun it i o => ∃ I o', it = .ref I ∧ o = o' ++ [(I, revO l ((vs.length : Int) - 1 - i))] ∧ Inv i o') (h.mono fun v o ⟨r, o', e, e2, hI⟩ => ?_) (fun it i o hi hJ => ?_) hs
  · subst e e2
    intro A g s rest Q E c ok S rr K
    rw [VR.raw_iff] at rr; subst rr
    obtain ⟨oi, hoi, hc, hd⟩ := at_last S
    exact wpAny_pyIter_revIter ⟨oi, hoi, hc, hd⟩ (K _ s.heap s.toks g (.ref r) _ ⟨_, rfl, r, o', rfl, by simp, hI⟩ S (StaysIn.refl _) (VR.raw_iff.mpr rfl))
  · obtain ⟨I, o', rfl, rfl, hI⟩ := hJ
    intro A g s rest Q E E' ok S K
    obtain ⟨cvs, n, ho, r⟩ := ent_list S (mem_app (mem_app (hm i o' hI)))
    have hl : s.heap.IsList l (List.toArray cvs) := ⟨_, ho, rfl, n, rfl⟩
    obtain ⟨oi, hoi, hc, hd⟩ := at_last S
    have hit : s.heap.IsRevIter I l ((vs.length : Int) - 1 - i) := ⟨oi, hoi, hc, hd⟩
    by_cases hii : i = vs.length
    · subst hii
      have e1 : ((vs.length : Int) - 1 - (vs.length : Nat)) = -1 := by omega
      rw [e1] at hit
      refine wpAny_pyNext_rev_end ok.1 hit fun h' hb => ?_
      exact K none h' s.toks g none o' (wss_nil ⟨o', List.Sublist.refl _, done _ hI⟩) (S.drops fun b o q e => hb b o (fun z => q (by simp [z])) e) (StaysIn.refl _) rfl
    · have hlt : i < vs.length := by omega
      obtain ⟨v, hx⟩ : ∃ v, vs.reverse[i]? = some v := ⟨_, List.getElem?_eq_getElem (by simpa using hlt)⟩
      have hx2 : vs[vs.length - 1 - i]? = some v := by rw [List.getElem?_reverse hlt] at hx; exact hx
      obtain ⟨c, hcx, rx⟩ := r.get hx2
      have e1 : ((vs.length : Int) - 1 - i) = ((vs.length - 1 - i : Nat) : Int) := by omega
      rw [e1] at hit
      refine wpAny_pyNext_rev_item hit hl (by simpa using hcx) fun h' hit' hsb => ?_
      obtain ⟨oi', hoi', hc', hd'⟩ := hit'
      have e2 : (((vs.length - 1 - i : Nat) : Int) - 1) = (vs.length : Int) - 1 - ((i + 1 : Nat) : Int) := by omega
      rw [e2] at hd'
      have S1 := S.turnAt (at_end (own := o') (a := I) (x := revO l ((vs.length : Int) - 1 - i)) (y := revO l ((vs.length : Int) - 1 - ((i + 1 : Nat) : Int))) |>.append rest) hsb hoi' ⟨hc', hd'⟩
      have T := turn_frame (more := [(I, revO l ((vs.length : Int) - 1 - ((i + 1 : Nat) : Int)))]) (turn i v o' hx hI) (J := fun o => ∃ I' o', Value.ref I = .ref I' ∧ o = o' ++ [(I', revO l ((vs.length : Int) - 1 - ((i + 1 : Nat) : Int)))] ∧ Inv (i + 1) o') fun o ho => ⟨I, o, rfl, rfl, ho⟩
      exact wpAny_pure (K (some c) h' s.toks g (some v) _ ⟨hlt, T⟩ S1 (StaysIn.refl _) ⟨c, rfl, rx⟩)

noncomputable def rngO (x left : Int) : O := .such fun o => o = { cls := .type "range_iterator", dict := none, data := .fields #[rawInt x, rawInt left, rawInt 1], slots := #[] }
/-- for x in range(a, b) -/
theorem ws_For_range {x : Str} {xp : Pos} {iter : Expr} {body : List Stmt} {pos} {a b : Int} {P : FV → Own → Prop} (Inv : Nat → Own → Prop)
    (h : WE w k env iter own fun v o1 => ∃ r o, v = .ref r ∧ o1 = o ++ [(r, rangeO a b)] ∧ Inv 0 o) (hsm : Builtin.Range.small a b 1 = true)
    (turn : ∀ i o, i < (b - a).toNat → Inv i o → WA w k env (.Name x xp) (.int (a + i)) o fun _ o1 => WSs w k env body o1 (loopP P (Inv (i + 1))))
    (done : ∀ o, Inv (b - a).toNat o → P .next o)
    (hs : ∀ x, foldedSetIterable iter env x = pure x := by intro _; rfl) : WS w k env (.For (.Name x xp) iter body [] pos) own P := by
  refine ws_For (b - a).toNat (fun it i o => ∃ I o', it = .ref I ∧ o = o' ++ [(I, rngO (a + i) ((b - a).toNat - i))] ∧ Inv i o') (h.mono fun v o ⟨r, o', e, e2, hI⟩ => ?_) (fun it i o hi hJ => ?_) hs
  · subst e e2
    intro A g s rest Q E c ok S rr K
    rw [VR.raw_iff] at rr; subst rr
    obtain ⟨oi, hoi, t, u, v, e⟩ := at_last S
    subst e
    refine wpAny_pyIter_range (a := a) (b := b) (c := 1) hoi hsm ?_
    have S1 : Sim w (o' ++ rest) s.heap g := S.sublist (List.Sublist.append_right (List.sublist_append_left _ _) _)
    refine K _ _ s.toks g (.ref s.heap.objs.size) _ ⟨_, rfl, _, o', rfl, rfl, hI⟩ (S1.pushE _ ?_) (StaysIn.refl _) (VR.raw_iff.mpr rfl)
    show _ = _
    rw [rangeSize_nat]; simp
  · obtain ⟨I, o', rfl, rfl, hI⟩ := hJ
    intro A g s rest Q E E' ok S K
    obtain ⟨oi, hoi, e⟩ := at_last S
    subst e
    have hit : IsRangeIter s.heap I (a + i) ((b - a).toNat - i) 1 := hoi
    by_cases hii : i = (b - a).toNat
    · subst hii
      refine wpAny_pyNext_range_end ok.1 hit (by omega) fun h' hb => ?_
      exact K none h' s.toks g none o' (wss_nil ⟨o', List.Sublist.refl _, done _ hI⟩) (S.drops fun b o q e => hb b o (fun z => q (by simp [z])) e) (StaysIn.refl _) rfl
    · have hlt : i < (b - a).toNat := by omega
      refine wpAny_pyNext_range_item hit (by omega) fun h' hit' hsb => ?_
      have S1 := S.turnAt (at_end (own := o') (a := I) (x := rngO (a + i) ((b - a).toNat - i)) (y := rngO (a + ((i + 1 : Nat) : Int)) ((b - a).toNat - ((i + 1 : Nat) : Int))) |>.append rest) hsb hit' (by
        show _ = _
        have e1 : a + (i : Int) + 1 = a + ((i + 1 : Nat) : Int) := by omega
        have e2 : ((b - a).toNat : Int) - i - 1 = (b - a).toNat - ((i + 1 : Nat) : Int) := by omega
        rw [e1, e2])
      have T := turn_frame (more := [(I, rngO (a + ((i + 1 : Nat) : Int)) ((b - a).toNat - ((i + 1 : Nat) : Int)))]) (turn i o' hlt hI) (J := fun o => ∃ I' o', Value.ref I = .ref I' ∧ o = o' ++ [(I', rngO (a + ((i + 1 : Nat) : Int)) ((b - a).toNat - ((i + 1 : Nat) : Int)))] ∧ Inv (i + 1) o') fun o ho => ⟨I, o, rfl, rfl, ho⟩
      exact wpAny_pure (K _ h' _ g (some (.int (a + i))) _ ⟨hlt, T⟩ S1 (StaysIn.refl _) ⟨_, rfl, VR.int_iff.mpr ⟨_, rfl⟩⟩)
end
end Mine

-- A8
namespace Mine
open PySem PySem.W PySem.Calls PyProof.Rows

theorem DR.get {w : World} : ∀ {kvs : List (Int × Int)} {cvs : List (Int × Value)}, DR kvs cvs → ∀ {i : Nat} {p : Int × Int}, kvs[i]? = some p → ∃ t, cvs[i]? = some (p.1, .int p.2 t)
  | [], _, _, _, _, e => by cases e
  | _ :: _, _, ⟨t, c', rfl, _⟩, 0, _, e => by cases e; exact ⟨t, rfl⟩
  | _ :: _, _, ⟨t, c', rfl, r⟩, i + 1, _, e => DR.get (w := w) r e
theorem DR.length : ∀ {kvs : List (Int × Int)} {cvs : List (Int × Value)}, DR kvs cvs → cvs.length = kvs.length
  | [], _, h => by rw [show _ = [] from h]; rfl
  | _ :: _, _, ⟨t, c', rfl, r⟩ => by simp [DR.length r]

noncomputable def viewO (w : World) (cls : String) (kvs : List (Int × Int)) : O := .mon (fun g o => ∃ d cvs, 3 < d ∧ g.DictOf (KI w) d cvs ∧ DR kvs cvs ∧ o.cls = .type cls ∧ o.data = .fields #[.ref d])
  fun _ _ _ k ⟨d, cvs, z, a, b⟩ => ⟨d, cvs, z, a.keep k, b⟩
noncomputable def itemsO (w : World) (kvs : List (Int × Int)) (i : Nat) : O := .mon (fun g o => ∃ d cvs ep ok ov, g.DictAt (KI w) d cvs ep ∧ DR kvs cvs ∧ o = { cls := .type "dict_itemiterator", dict := none, data := .fields #[.none, .bool false, .ref d, .int i 0, .int cvs.length 0, .int ep 0, ok, ov], slots := #[] })
  fun _ _ _ k ⟨d, cvs, ep, ok, ov, a, b⟩ => ⟨d, cvs, ep, ok, ov, a.keep k, b⟩
noncomputable def valsO (w : World) (kvs : List (Int × Int)) (i : Nat) : O := .mon (fun g o => ∃ d cvs ep, g.DictAt (KI w) d cvs ep ∧ DR kvs cvs ∧ o.cls = .type "dict_valueiterator" ∧ o.data = .fields #[.ref d, .int i 0, .int cvs.length 0, .int ep 0])
  fun _ _ _ k ⟨d, cvs, ep, a, b⟩ => ⟨d, cvs, ep, a.keep k, b⟩

section
variable {w : World} {k : Nat} {env : Env} {own : Own}

theorem notSys {d : Addr} (h3 : 3 < d) : (d == sysModules) = false := by
  have : d ≠ sysModules := fun e => by rw [e] at h3; exact absurd h3 (by decide)
  simpa using this

theorem we_items {o apos pos} {P : V → Own → Prop} (h : WE w k env o own fun v o1 => ∃ kvs, v = .dct kvs ∧ ∀ r, P (.ref r) (o1 ++ [(r, viewO w "dict_items" kvs)]))
    (hbase : attributeBase o "items" env (eval o env) = eval o env := by rfl) (hline : (apos.endLine == pos.line) = true := by rfl) : WE w k env (.Call (.Attribute o "items" apos) [] [] pos) own P := by
  intro A g s rest Q E c ok S i K
  refine Call_method0 hbase hline (h A g s rest _ _ c ok S i fun a h1 tk1 g1 v1 o1 h S1 l1 r1 => ?_)
  obtain ⟨kvs, rfl, hP⟩ := h
  obtain ⟨d, cvs, rfl, z, hd, r⟩ := VR.dct_iff.mp r1
  have hm : h1.DictOf (KI w) d cvs := hd.keep S1.sub
  refine ⟨"dict", "dict.items", F.plainAttrs_dict, F.slot_dict_items, F.type_dict_items, hm.typeIs (s := { s with heap := h1, toks := tk1 }), (fun a e => by cases e; exact hm.mapOf.noDict _ rfl), ?_⟩
  exact method_meetsIn F.slot_dict_items F.entry_dict_items rfl (PySem.evalArgs_none ⟨rfl, hm.typeIs (s := { s with heap := h1, toks := tk1 }), F.args_dict_items_1 _, _, meets_dict_items (KI w) d (notSys z), ⟨cvs, hm⟩,
    K _ _ _ g1 (.ref h1.objs.size) _ (hP _) (S1.pushE _ ⟨d, cvs, z, hd, r, rfl, rfl⟩) l1 (VR.raw_iff.mpr rfl)⟩)
theorem we_values {o apos pos} {P : V → Own → Prop} (h : WE w k env o own fun v o1 => ∃ kvs, v = .dct kvs ∧ ∀ r, P (.ref r) (o1 ++ [(r, viewO w "dict_values" kvs)]))
    (hbase : attributeBase o "values" env (eval o env) = eval o env := by rfl) (hline : (apos.endLine == pos.line) = true := by rfl) : WE w k env (.Call (.Attribute o "values" apos) [] [] pos) own P := by
  intro A g s rest Q E c ok S i K
  refine Call_method0 hbase hline (h A g s rest _ _ c ok S i fun a h1 tk1 g1 v1 o1 h S1 l1 r1 => ?_)
  obtain ⟨kvs, rfl, hP⟩ := h
  obtain ⟨d, cvs, rfl, z, hd, r⟩ := VR.dct_iff.mp r1
  have hm : h1.DictOf (KI w) d cvs := hd.keep S1.sub
  refine ⟨"dict", "dict.values", F.plainAttrs_dict, F.slot_dict_values, F.type_dict_values, hm.typeIs (s := { s with heap := h1, toks := tk1 }), (fun a e => by cases e; exact hm.mapOf.noDict _ rfl), ?_⟩
  exact method_meetsIn F.slot_dict_values F.entry_dict_values rfl (PySem.evalArgs_none ⟨rfl, hm.typeIs (s := { s with heap := h1, toks := tk1 }), F.args_dict_values_1 _, _, meets_dict_values (KI w) d (notSys z), ⟨cvs, hm⟩,
    K _ _ _ g1 (.ref h1.objs.size) _ (hP _) (S1.pushE _ ⟨d, cvs, z, hd, r, rfl, rfl⟩) l1 (VR.raw_iff.mpr rfl)⟩)

/-- for k, v in d.items() -/
theorem ws_For_items {x y : Str} {n : Nat} {xp yp tp : Pos} {iter : Expr} {body : List Stmt} {pos} {kvs : List (Int × Int)} {P : FV → Own → Prop} (Inv : Nat → Own → Prop)
    (h : WE w k env iter own fun v o1 => ∃ r o, v = .ref r ∧ o1 = o ++ [(r, viewO w "dict_items" kvs)] ∧ Inv 0 o)
    (turn : ∀ i p o, kvs[i]? = some p → Inv i o → WA w k env (.Tuple [.Name x xp, .Name y yp] n tp) (.tup [.int p.1, .int p.2]) o fun _ o1 => WSs w k env body o1 (loopP P (Inv (i + 1))))
    (done : ∀ o, Inv kvs.length o → P .next o)
    (hs : ∀ x, foldedSetIterable iter env x = pure x := by intro _; rfl) : WS w k env (.For (.Tuple [.Name x xp, .Name y yp] n tp) iter body [] pos) own P := by
  refine ws_For kvs.length (fun it i o => ∃ I o', it = .ref I ∧ o = o' ++ [(I, itemsO w kvs i)] ∧ Inv i o') (h.mono fun v o ⟨r, o', e, e2, hI⟩ => ?_) (fun it i o hi hJ => ?_) hs
  · subst e e2
    intro A g s rest Q E c ok S rr K
    rw [VR.raw_iff] at rr; subst rr
    obtain ⟨oi, hoi, d, cvs, z, hd, r, hc, hdd⟩ := at_last S
    obtain ⟨ep, hat⟩ := hd.dictAt
    have S1 : Sim w (o' ++ rest) s.heap g := S.sublist (List.Sublist.append_right (List.sublist_append_left _ _) _)
    refine wpAny_pyIter_items (knd := KI w) (d := d) (kvs := cvs) (ep := ep) ⟨oi, hoi, hc, hdd⟩ (hat.keep S.sub) ?_
    exact K _ _ s.toks g (.ref s.heap.objs.size) _ ⟨_, rfl, _, o', rfl, rfl, hI⟩ (S1.pushE _ ⟨d, cvs, ep, .none, .none, hat, r, rfl⟩) (StaysIn.refl _) (VR.raw_iff.mpr rfl)
  · obtain ⟨I, o', rfl, rfl, hI⟩ := hJ
    intro A g s rest Q E E' ok S K
    obtain ⟨oi, hoi, d, cvs, ep, okk, ovv, hat, r, e⟩ := at_last S
    subst e
    have hit : IsItemIter s.heap I d i cvs.length ep okk ovv := hoi
    have hlen := r.length
    cases hx : kvs[i]? with
    | none =>
      have hii : i = kvs.length := by have := List.getElem?_eq_none_iff.mp hx; omega
      subst hii
      refine wpAny_pyNext_items_end ok.1 hit (hat.keep S.sub) (List.getElem?_eq_none_iff.mpr (by omega)) fun h' hb => ?_
      exact K none h' s.toks g none o' (wss_nil ⟨o', List.Sublist.refl _, done _ hI⟩) (S.drops fun b o q e => hb b o (fun z => q (by simp [z])) e) (StaysIn.refl _) rfl
    | some p =>
      obtain ⟨t, hcx⟩ := DR.get (w := w) r hx
      refine wpAny_pyNext_items_item hit (hat.keep S.sub) hcx fun key h' hkey hit' hT hsz hk => ?_
      obtain ⟨u, rfl⟩ := Value.isInt_shape hkey
      have S1 : Sim w ((o' ++ [(I, .such fun o => o = { cls := .type "dict_itemiterator", dict := none, data := .fields #[rawInt s.heap.objs.size, .bool false, .ref d, .int (i + 1 : Nat) 0, .int cvs.length 0, .int ep 0, .int p.1 u, .int p.2 t], slots := #[] })]) ++ rest) h' g :=
        S.turns (mid := [(I, itemsO w kvs i)]) rfl (fun b o q e => hk b o (fun z => q (by simp [z])) e) (fun q hq => by rw [List.mem_singleton.mp hq]; exact ⟨_, hit', rfl⟩)
      obtain ⟨g2, S2, l2, e2⟩ := S1.fullAt hT (fun q hq => by
        have : q.1 < s.heap.objs.size := by
          rcases List.mem_append.mp hq with hq | hq
          · rcases List.mem_append.mp hq with hq | hq
            · exact S.lt (by simp [hq])
            · rw [List.mem_singleton.mp hq]; exact S.lt (p := (I, itemsO w kvs i)) (by simp)
          · exact S.lt (by simp [hq])
        exact Nat.ne_of_lt this)
      have T := turn_frame (more := [(I, itemsO w kvs (i + 1))]) (turn i p o' hx hI) (J := fun o => ∃ I' o', Value.ref I = .ref I' ∧ o = o' ++ [(I', itemsO w kvs (i + 1))] ∧ Inv (i + 1) o') fun o ho => ⟨I, o, rfl, rfl, ho⟩
      refine wpAny_letOwnedTupleGo_items (s := { s with heap := h' }) hit' fun h2 hit2 hs2 => ?_
      have S3 := S2.turnAt (at_end (own := o') (a := I) (y := itemsO w kvs (i + 1)) |>.append rest) hs2 hit2 ⟨d, cvs, ep, _, _, hat.keep l2, r, rfl⟩
      exact K _ h2 s.toks g2 (some (.tup [.int p.1, .int p.2])) _ ⟨(List.getElem?_eq_some_iff.mp hx).1, T⟩ S3 l2 ⟨_, rfl, VR.tup_iff.mpr ⟨_, [.int p.1 u, .int p.2 t], rfl, ⟨_, e2, rfl, 0, rfl⟩,
        VRs.cons_iff.mpr ⟨_, _, rfl, VR.int_iff.mpr ⟨_, rfl⟩, VRs.cons_iff.mpr ⟨_, _, rfl, VR.int_iff.mpr ⟨_, rfl⟩, VRs.nil_iff.mpr rfl⟩⟩⟩⟩

/-- for v in d.values() -/
theorem ws_For_values {x : Str} {xp : Pos} {iter : Expr} {body : List Stmt} {pos} {kvs : List (Int × Int)} {P : FV → Own → Prop} (Inv : Nat → Own → Prop)
    (h : WE w k env iter own fun v o1 => ∃ r o, v = .ref r ∧ o1 = o ++ [(r, viewO w "dict_values" kvs)] ∧ Inv 0 o)
    (turn : ∀ i p o, kvs[i]? = some p → Inv i o → WA w k env (.Name x xp) (.int p.2) o fun _ o1 => WSs w k env body o1 (loopP P (Inv (i + 1))))
    (done : ∀ o, Inv kvs.length o → P .next o)
    (hs : ∀ x, foldedSetIterable iter env x = pure x := by intro _; rfl) : WS w k env (.For (.Name x xp) iter body [] pos) own P := by
  refine ws_For kvs.length (fun it i o => ∃ I o', it = .ref I ∧ o = o' ++ [(I, valsO w kvs i)] ∧ Inv i o') (h.mono fun v o ⟨r, o', e, e2, hI⟩ => ?_) (fun it i o hi hJ => ?_) hs
  · subst e e2
    intro A g s rest Q E c ok S rr K
    rw [VR.raw_iff] at rr; subst rr
    obtain ⟨oi, hoi, d, cvs, z, hd, r, hc, hdd⟩ := at_last S
    obtain ⟨ep, hat⟩ := hd.dictAt
    have S1 : Sim w (o' ++ rest) s.heap g := S.sublist (List.Sublist.append_right (List.sublist_append_left _ _) _)
    refine wpAny_pyIter_values (knd := KI w) (d := d) (kvs := cvs) (ep := ep) ⟨oi, hoi, hc, hdd⟩ (hat.keep S.sub) ?_
    exact K _ _ s.toks g (.ref s.heap.objs.size) _ ⟨_, rfl, _, o', rfl, rfl, hI⟩ (S1.pushE _ ⟨d, cvs, ep, hat, r, rfl, rfl⟩) (StaysIn.refl _) (VR.raw_iff.mpr rfl)
  · obtain ⟨I, o', rfl, rfl, hI⟩ := hJ
    intro A g s rest Q E E' ok S K
    obtain ⟨oi, hoi, d, cvs, ep, hat, r, hc, hdd⟩ := at_last S
    have hit : s.heap.IsValIter I d i cvs.length ep := ⟨oi, hoi, hc, hdd⟩
    have hlen := r.length
    cases hx : kvs[i]? with
    | none =>
      have hii : i = kvs.length := by have := List.getElem?_eq_none_iff.mp hx; omega
      subst hii
      refine wpAny_pyNext_values_end ok.1 hit (hat.keep S.sub) (List.getElem?_eq_none_iff.mpr (by omega)) fun h' hb => ?_
      exact K none h' s.toks g none o' (wss_nil ⟨o', List.Sublist.refl _, done _ hI⟩) (S.drops fun b o q e => hb b o (fun z => q (by simp [z])) e) (StaysIn.refl _) rfl
    | some p =>
      obtain ⟨t, hcx⟩ := DR.get (w := w) r hx
      refine wpAny_pyNext_values_item hit (hat.keep S.sub) hcx fun h' hit' hsb => ?_
      obtain ⟨oi', hoi', hc', hd'⟩ := hit'
      have S1 := S.turnAt (at_end (own := o') (a := I) (x := valsO w kvs i) (y := valsO w kvs (i + 1)) |>.append rest) hsb hoi' ⟨d, cvs, ep, hat, r, hc', hd'⟩
      have T := turn_frame (more := [(I, valsO w kvs (i + 1))]) (turn i p o' hx hI) (J := fun o => ∃ I' o', Value.ref I = .ref I' ∧ o = o' ++ [(I', valsO w kvs (i + 1))] ∧ Inv (i + 1) o') fun o ho => ⟨I, o, rfl, rfl, ho⟩
      exact wpAny_pure (K _ h' s.toks g (some (.int p.2)) _ ⟨(List.getElem?_eq_some_iff.mp hx).1, T⟩ S1 (StaysIn.refl _) ⟨_, rfl, VR.int_iff.mpr ⟨_, rfl⟩⟩)

/-- zip of two owned lists: the five objects that it makes -/
noncomputable def zipO (i1 i2 TI TO z : Addr) (l1 l2 : Addr) (i : Nat) : Own := [(i1, liO l1 i), (i2, liO l2 i), (TI, .raw { cls := .type "tuple", data := .seq #[.ref i1, .ref i2] }), (TO, .such fun o => ∃ a b, o = { cls := .type "tuple", data := .seq #[a, b] }),
  (z, .raw { cls := .type "zip", dict := none, data := .fields #[.none, .bool false, .bool false, .ref TI, .ref TO], slots := #[] })]
end
end Mine

-- A9
namespace Mine
open PySem PySem.W PySem.Calls PyProof.Rows

section
variable {w : World} {k : Nat} {env : Env} {own : Own}

theorem nd5 (L : Nat) : [L, L + 1, L + 2, L + 3, L + 4].Nodup :=
  List.Pairwise.map (R := (· ≠ ·)) (L + ·) (fun _ _ h e => h (Nat.add_left_cancel e)) (show [0, 1, 2, 3, 4].Nodup from by decide)
theorem lt5 (L a b : Nat) (h : a ∈ [L, L + 1, L + 2, L + 3, L + 4]) (hb : b < L) : a ≠ b := by
  obtain ⟨i, _, rfl⟩ := List.mem_map.mp (show a ∈ [0, 1, 2, 3, 4].map (L + ·) from h)
  exact Nat.ne_of_gt (Nat.lt_of_lt_of_le hb (Nat.le_add_right L i))
theorem wc_zip {l1 l2 : Addr} {vs1 vs2 : List V} {P : V → Own → Prop} (h1 : (l1, O.list vs1) ∈ own) (h2 : (l2, O.list vs2) ∈ own) (h : ∀ i1 i2 TI TO z, P (.ref z) (own ++ zipO i1 i2 TI TO z l1 l2 0)) : WC w k (.type "zip") [.ref l1, .ref l2] own P := by
  intro A g s rest Q E c ok S r K
  obtain ⟨x, r1, rfl, hx, hr⟩ := VRs.cons_iff.mp r
  obtain ⟨y, r2, rfl, hy, hr⟩ := VRs.cons_iff.mp hr
  rw [VRs.nil_iff] at hr; subst hr
  rw [VR.raw_iff] at hx hy; subst hx hy
  obtain ⟨c1, n1, ho1, q1⟩ := ent_list S (mem_app h1)
  obtain ⟨c2, n2, ho2, q2⟩ := ent_list S (mem_app h2)
  have hl1 : s.heap.IsList l1 (List.toArray c1) := ⟨_, ho1, rfl, n1, rfl⟩
  have hl2 : s.heap.IsList l2 (List.toArray c2) := ⟨_, ho2, rfl, n2, rfl⟩
  refine call_zip_2 hl1 hl2 fun h' hz hTI hTO hi1 hi2 hsz hk => ?_
  obtain ⟨o1, e1, d1⟩ := hi1
  obtain ⟨o2, e2, d2⟩ := hi2
  have S1 : Sim w (own ++ rest) h' g := S.ext hk
  have h3 := S.three
  have nl : ∀ p ∈ own ++ rest, p.1 < s.heap.objs.size := fun p hp => S.lt hp
  have fr : ∀ j : Nat, g.get? (s.heap.objs.size + j) = none := fun j => by
    cases q : g.get? (s.heap.objs.size + j) with
    | none => rfl
    | some o => exact absurd (Heap.lt_size (S.sub _ _ q)) (Nat.not_lt.mpr (Nat.le_add_right _ _))
  have S2 : Sim w (zipO s.heap.objs.size (s.heap.objs.size + 1) (s.heap.objs.size + 2) (s.heap.objs.size + 3) (s.heap.objs.size + 4) l1 l2 0 ++ (own ++ rest)) h' g := by
    refine ⟨S1.base, S1.sub, fun p hp => ?_, ?_⟩
    · rcases List.mem_append.mp hp with hp | hp
      · simp only [zipO, List.mem_cons, List.not_mem_nil, or_false] at hp
        rcases hp with rfl | rfl | rfl | rfl | rfl
        · exact ⟨h3, fr 0, o1, e1, d1⟩
        · exact ⟨Nat.lt_add_right 1 h3, fr 1, o2, e2, d2⟩
        · exact ⟨Nat.lt_add_right 2 h3, fr 2, _, hTI, rfl⟩
        · exact ⟨Nat.lt_add_right 3 h3, fr 3, _, hTO, _, _, rfl⟩
        · exact ⟨Nat.lt_add_right 4 h3, fr 4, _, hz, rfl⟩
      · exact S1.ent p hp
    · rw [List.map_append, List.nodup_append]
      refine ⟨?_, S1.nd, fun a ha b hb => ?_⟩
      · exact nd5 _
      · obtain ⟨p, hp, rfl⟩ := List.mem_map.mp hb
        exact lt5 _ _ _ ha (nl p hp)
  refine K (.ref (s.heap.objs.size + 4)) h' s.toks g (.ref (s.heap.objs.size + 4)) _ (h s.heap.objs.size (s.heap.objs.size + 1) (s.heap.objs.size + 2) (s.heap.objs.size + 3) (s.heap.objs.size + 4)) (S2.perm ?_) (StaysIn.refl _) (VR.raw_iff.mpr rfl)
  rw [← List.append_assoc]
  exact (List.perm_append_comm).append_right _

theorem zip_apart {own rest : Own} {h g : Heap} {i1 i2 TI TO z l1 l2 : Addr} {j : Nat} {v1 v2 : O} (S : Sim w ((own ++ zipO i1 i2 TI TO z l1 l2 j) ++ rest) h g) (h1 : (l1, v1) ∈ own) (h2 : (l2, v2) ∈ own) : ZipApart z TI TO i1 i2 l1 l2 := by
  have nd := S.nd
  rw [List.map_append, List.map_append, List.append_assoc, List.nodup_append, List.nodup_append] at nd
  obtain ⟨_, ⟨n2, _, _⟩, n3⟩ := nd
  have a1 : ∀ b ∈ (zipO i1 i2 TI TO z l1 l2 j).map (·.1), l1 ≠ b := fun b hb => n3 l1 (List.mem_map_of_mem h1) b (List.mem_append_left _ hb)
  have a2 : ∀ b ∈ (zipO i1 i2 TI TO z l1 l2 j).map (·.1), l2 ≠ b := fun b hb => n3 l2 (List.mem_map_of_mem h2) b (List.mem_append_left _ hb)
  simp only [zipO, List.map_cons, List.map_nil, List.nodup_cons, List.mem_cons, List.not_mem_nil, or_false, not_or, not_false_eq_true, List.nodup_nil, and_true, forall_eq_or_imp, forall_eq] at n2 a1 a2
  obtain ⟨⟨p1, p2, p3, p4⟩, ⟨p5, p6, p7⟩, ⟨p8, p9⟩, p10⟩ := n2
  obtain ⟨b1, b2, b3, b4, b5⟩ := a1
  obtain ⟨c1, c2, c3, c4, c5⟩ := a2
  exact ⟨p9, p10, p4, p7, p8, Ne.symm p2, Ne.symm p5, Ne.symm p3, Ne.symm p6, p1, b5, b4, b1, b2, c5, c4, c1, c2⟩

end
end Mine

-- A10
namespace Mine
open PySem PySem.W PySem.Calls PyProof.Rows

noncomputable def lookD {β : Type} (kvs : List (Int × β)) (i : Int) : Option β := (kvs.find? fun p => p.1 = i).map (·.2)
noncomputable def storeD {β : Type} (kvs : List (Int × β)) (i : Int) (v : β) : List (Int × β) := if kvs.any (fun p => p.1 = i) then kvs.map (fun p => if p.1 = i then (p.1, v) else p) else kvs ++ [(i, v)]

theorem KR.any {w : World} {g : Heap} {i : Int} : ∀ {kvs : List (Int × V)} {cvs : List (Int × Value)}, KR w g kvs cvs → cvs.any (fun p => p.1 = i) = kvs.any (fun p => p.1 = i)
  | [], _, h => by rw [show _ = [] from h]; rfl
  | _ :: _, _, ⟨x, c', rfl, _, r⟩ => by simp [KR.any r]
theorem KR.length {w : World} {g : Heap} : ∀ {kvs : List (Int × V)} {cvs : List (Int × Value)}, KR w g kvs cvs → cvs.length = kvs.length
  | [], _, h => by rw [show _ = [] from h]; rfl
  | _ :: _, _, ⟨x, c', rfl, _, r⟩ => by simp [KR.length r]
theorem KR.look {w : World} {g : Heap} {i : Int} {v : V} : ∀ {kvs : List (Int × V)} {cvs : List (Int × Value)}, KR w g kvs cvs → lookD kvs i = some v → ∃ c, valueAt cvs i = some c ∧ VR w g v c
  | [], _, _, e => by simp [lookD] at e
  | p :: r, _, ⟨x, c', rfl, hx, hr⟩, e => by
    simp only [lookD, List.find?_cons] at e
    by_cases q : p.1 = i
    · simp only [q, decide_true, Option.map_some, Option.some.injEq] at e
      subst e
      exact ⟨x, by simp [valueAt, q], hx⟩
    · simp only [q, decide_false] at e
      obtain ⟨c, h1, h2⟩ := KR.look hr e
      exact ⟨c, by simp only [valueAt, List.find?_cons, q, decide_false] at h1 ⊢; exact h1, h2⟩
theorem KR.append {w : World} {g : Heap} {i : Int} {v : V} {c : Value} (hv : VR w g v c) : ∀ {kvs : List (Int × V)} {cvs : List (Int × Value)}, KR w g kvs cvs → KR w g (kvs ++ [(i, v)]) (cvs ++ [(i, c)])
  | [], _, h => by rw [show _ = [] from h]; exact ⟨c, [], rfl, hv, rfl⟩
  | _ :: _, _, ⟨x, c', rfl, hx, r⟩ => ⟨x, _, rfl, hx, KR.append hv r⟩
theorem KR.mapSet {w : World} {g : Heap} {i : Int} {v : V} {c : Value} (hv : VR w g v c) : ∀ {kvs : List (Int × V)} {cvs : List (Int × Value)}, KR w g kvs cvs → KR w g (kvs.map fun p => if p.1 = i then (p.1, v) else p) (cvs.map fun p => if p.1 = i then (p.1, c) else p)
  | [], _, h => by rw [show _ = [] from h]; rfl
  | p :: _, _, ⟨x, c', rfl, hx, r⟩ => by
    by_cases q : p.1 = i
    · exact ⟨c, _, by simp [q], by simpa [q] using hv, KR.mapSet hv r⟩
    · exact ⟨x, _, by simp [q], by simpa [q] using hx, KR.mapSet hv r⟩
theorem KR.store {w : World} {g : Heap} {i : Int} {v : V} {c : Value} {kvs : List (Int × V)} {cvs : List (Int × Value)} (h : KR w g kvs cvs) (hv : VR w g v c) : KR w g (storeD kvs i v) (stored cvs i c) := by
  unfold storeD stored
  rw [h.any]
  split
  · exact h.mapSet hv
  · exact h.append hv

section
variable {w : World} {k : Nat} {env : Env} {own : Own}

theorem at_dict {h g : Heap} {own own' rest : Own} {a : Addr} {kvs : List (Int × V)} {y : O} (S : Sim w (own ++ rest) h g) (m : At a (.dict kvs) y own own') : 3 < a ∧ ∃ cvs, h.DictOf (KI w) a cvs ∧ KR w g kvs cvs := by
  obtain ⟨pre, post, e, _⟩ := (m.append rest).split
  have := S.ent (a, .dict kvs) (by rw [e]; simp)
  obtain ⟨h3, _, o, ho, cvs, r, q⟩ := this
  exact ⟨h3, cvs, Heap.dictOf_iff.mpr ⟨o, ho, r⟩, q⟩
theorem w2_in {d : Addr} {i : Int} {kvs : List (Int × V)} {P : V → Own → Prop} (h : P (.bool (kvs.any fun p => p.1 = i)) own) (hm : (d, O.dict kvs) ∈ own) : W2 w k (.int i) (.ref d) (compareOp .In) (VR w) own P := by
  rintro A g s rest Q E ⟨a, b⟩ ok S ⟨r1, r2⟩ K
  obtain ⟨t, e⟩ := VR.int_iff.mp r1
  rw [VR.raw_iff] at r2
  dsimp only at r2 e ⊢
  subst r2 e
  obtain ⟨lo, cvs, hd, r⟩ := ent_dict S (mem_app hm)
  refine wpAny_in_of (knd := KI w) (k := i) (key := .int i t) (by simp [intKind, Value.isInt]) lo hd.mapOf (K _ s.heap _ g _ _ h S (StaysIn.refl _) (VR.raw_iff.mpr ?_))
  rw [valueAt_isSome_eq_any, r.any]
theorem getD {d : Addr} {i : Int} {t : Tok} {kvs : List (Int × V)} {v : V} {A : Around} {E : Value → Shared → Prop} {s : Shared} {g : Heap} {o : Own} {Q : Value → Shared → Prop} (S : Sim w o s.heap g) (hm : (d, O.dict kvs) ∈ o) (hv : lookD kvs i = some v)
    (h : ∀ c, VR w g v c → Q c { s with toks := s.toks + 1 }) : s.TypeIs (.ref d) "dict" ∧ wpAny (model PG w) A (getItem (.ref d) (.int i t)) Q E s := by
  obtain ⟨lo, cvs, hd, r⟩ := ent_dict S hm
  obtain ⟨c, hc, rc⟩ := r.look hv
  exact ⟨hd.typeIs, wpAny_getItem_of (knd := KI w) (k := i) (key := .int i t) (by simp [intKind, Value.isInt]) hd.mapOf hc (h c rc)⟩
theorem w2_dict {d : Addr} {i : Int} {kvs : List (Int × V)} {v : V} {value slice : Expr} {P : V → Own → Prop} (h : P v own) (hm : (d, O.dict kvs) ∈ own) (hv : lookD kvs i = some v)
    (hs : ∀ o i, subscripted slice false o i = operate [o, i] (getItem o i) := by intro _ _; with_unfolding_all rfl) : W2 w k (.ref d) (.int i) (subscriptTail value slice) (VR w) own P := by
  rintro A g s rest Q E ⟨a, b⟩ ok S ⟨r1, r2⟩ K
  obtain ⟨t, e⟩ := VR.int_iff.mp r2
  rw [VR.raw_iff] at r1
  dsimp only at r1 e ⊢
  subst r1 e
  have G := getD (A := A) (E := E) (t := t) S (mem_app hm) hv fun c rc => K c s.heap _ g _ _ h S (StaysIn.refl _) rc
  exact tail_any G.1 slot_dict_getitem.lookup G.2 (hs _ _)
theorem w2_dictget {d : Addr} {i : Int} {kvs : List (Int × V)} {v : V} {P : V → Own → Prop} (h : P v own) (hm : (d, O.dict kvs) ∈ own) (hv : lookD kvs i = some v) : W2 w k (.ref d) (.int i) getItem (VR w) own P := by
  rintro A g s rest Q E ⟨a, b⟩ ok S ⟨r1, r2⟩ K
  obtain ⟨t, e⟩ := VR.int_iff.mp r2
  rw [VR.raw_iff] at r1
  dsimp only at r1 e ⊢
  subst r1 e
  exact (getD (A := A) (E := E) (t := t) S (mem_app hm) hv fun c rc => K c s.heap _ g _ _ h S (StaysIn.refl _) rc).2
theorem w3_dict {d : Addr} {i : Int} {kvs : List (Int × V)} {v : V} {own' : Own} {P : Unit → Own → Prop} (h : P () own') (m : At d (.dict kvs) (.dict (storeD kvs i v)) own own') (hz : kvs.length < 16777216) : W3 w k (.ref d) (.int i) v setItem UR own P := by
  rintro A g s rest Q E ⟨a, b, c⟩ ok S ⟨r1, r2, r3⟩ K
  obtain ⟨t, e⟩ := VR.int_iff.mp r2
  rw [VR.raw_iff] at r1
  dsimp only at r1 e r3 ⊢
  subst r1 e
  obtain ⟨h3, cvs, hd, r⟩ := at_dict S m
  refine wpAny_setItem_pairs (knd := KI w) (k := i) (key := .int i t) (by simp [intKind, Value.isInt]) hd (fun h' hd' hs => ?_) (by rw [r.length]; exact Nat.le_of_lt hz)
  obtain ⟨o, ho, q⟩ := Heap.dictOf_iff.mp hd'
  exact K () h' _ g () _ h (S.turnAt (m.append rest) hs ho ⟨_, q, r.store r3⟩) (StaysIn.refl _) trivial

/-- {key: value}: a dict of one written pair -/
theorem we_Dict1 {ke ve pos} {P : V → Own → Prop} (h : WE w k env ke own fun u o1 => WE w k env ve o1 fun v o2 => ∃ i, u = .int i ∧ ∀ a, P (.ref a) (o2 ++ [(a, .dict [(i, v)])])) : WE w k env (.Dict [some ke] [ve] pos) own P := by
  intro A g s rest Q E c ok S i K
  refine wpAny_Dict_walk (knd := KI w) rfl rfl (by simp) (by simp) ?_
  have S0 : Sim w ((own ++ rest) ++ [(s.heap.objs.size, .dict [])]) (s.heap.push { cls := .type "dict", data := .dict #[] }) g := by
    obtain ⟨o, ho, hd⟩ := Heap.dictOf_iff.mp (Heap.DictOf.new (knd := KI w) s.heap)
    rw [Heap.get?_push_size _ rfl] at ho
    cases ho
    have := Sim.pushE (own := own ++ rest) (rest := []) (by rw [List.append_nil]; exact S) { cls := .type "dict", data := .dict #[] } (x := .dict []) ⟨[], hd, rfl⟩
    rw [List.append_nil] at this
    exact this
  have assoc : ∀ (o : Own), (o ++ rest) ++ [(s.heap.objs.size, O.dict [])] = o ++ (rest ++ [(s.heap.objs.size, O.dict [])]) := fun o => List.append_assoc ..
  rw [assoc] at S0
  refine pairTrees_cons_walk (h A g _ _ _ _ () ok S0 trivial fun a h1 tk1 g1 u o1 h S1 l1 r1 => ?_)
  refine h A g1 _ _ _ _ () ok S1 trivial fun b h2 tk2 g2 v o2 h S2 l2 r2 => ?_
  obtain ⟨j, rfl, hP⟩ := h
  obtain ⟨t, rfl⟩ := VR.int_iff.mp r1
  refine pairTrees_nil_walk ?_
  obtain ⟨_, _, od, hod, cvs, hdd, hr⟩ := S2.ent (s.heap.objs.size, .dict []) (by simp)
  have hr' : cvs = [] := hr
  subst hr'
  refine ⟨[(j, b)], ⟨by simp [intKind, Value.isInt], rfl, trivial⟩, Heap.dictOf_iff.mpr ⟨od, hod, hdd⟩, fun h' hd' hs' => ?_⟩
  obtain ⟨o', ho', q'⟩ := Heap.dictOf_iff.mp hd'
  refine K (.ref s.heap.objs.size) h' _ g2 (.ref s.heap.objs.size) _ (hP _) ?_ (StaysIn.trans l1 l2) (VR.raw_iff.mpr rfl)
  have S3 : Sim w ((o2 ++ rest) ++ [(s.heap.objs.size, .dict [(j, v)])]) h' g2 := by
    have e2 : o2 ++ (rest ++ [(s.heap.objs.size, O.dict [])]) = (o2 ++ rest) ++ [(s.heap.objs.size, O.dict [])] := (List.append_assoc ..).symm
    rw [e2] at S2
    exact S2.turnAt at_end hs' ho' ⟨_, q', b, [], rfl, r2, rfl⟩
  refine S3.perm ?_
  rw [List.append_assoc, List.append_assoc]
  exact List.perm_append_comm.append_left _

theorem KR_DR {g : Heap} : ∀ {kvs : List (Int × Int)} {cvs : List (Int × Value)}, KR w g (kvs.map fun p => (p.1, V.int p.2)) cvs → DR kvs cvs
  | [], _, h => h
  | p :: r, _, ⟨x, c', e, hx, hr⟩ => by
    obtain ⟨t, rfl⟩ := VR.int_iff.mp hx
    exact ⟨t, c', e, KR_DR hr⟩
theorem Sim.freezeD {pre post : Own} {h g : Heap} {a : Addr} {kvs : List (Int × Int)} (S : Sim w (pre ++ (a, .dict (kvs.map fun p => (p.1, V.int p.2))) :: post) h g) : ∃ g', Sim w (pre ++ post) h g' ∧ g.StaysIn g' ∧ VR w g' (.dct kvs) (.ref a) := by
  obtain ⟨g', o, S', l, hg, ho, cvs, hd, hr⟩ := S.freeze
  have h3 := (S.ent (a, .dict (kvs.map fun p => (p.1, V.int p.2))) (by simp)).1
  exact ⟨g', S', l, VR.dct_iff.mpr ⟨a, cvs, rfl, h3, Heap.dictOf_iff.mpr ⟨o, hg, hd⟩, KR_DR hr⟩⟩
/-- the value just made, a dict of ints, is frozen -/
theorem we_freezeV {e : Expr} {P : V → Own → Prop} (h : WE w k env e own fun v o => ∃ a kvs pre post, v = .ref a ∧ o = pre ++ (a, .dict (kvs.map fun p => (p.1, V.int p.2))) :: post ∧ P (.dct kvs) (pre ++ post)) : WE w k env e own P := by
  intro A g s rest Q E c ok S i K
  refine h A g s rest _ _ c ok S i fun v h1 tk1 g1 v1 o1 h S1 l1 r1 => ?_
  obtain ⟨a, kvs, pre, post, rfl, rfl, hP⟩ := h
  rw [VR.raw_iff] at r1; subst r1
  rw [List.append_assoc, List.cons_append] at S1
  obtain ⟨g2, S2, l2, r2⟩ := S1.freezeD
  exact K (.ref a) h1 tk1 g2 _ _ hP (by rw [List.append_assoc]; exact S2) (StaysIn.trans l1 l2) r2
/-- an owned dict of ints is frozen; the name that bears it bears the frozen one -/
theorem Wg.freezeAs {γ α β : Type} {In : Heap → γ → Prop} (hin : ∀ g g' c, g.StaysIn g' → In g c → In g' c) {t : γ → Sem α} {Rel : Heap → β → α → Prop} {P : β → Own → Prop} {L a : Addr} {x : Str} {ks : List (Str × V)} {kvs : List (Int × Int)} {pre post : Own}
    (hx : ks.lookup x = some (.ref a)) (h : Wg w k In t Rel ((L, .frame (setK x (.dct kvs) ks)) :: pre ++ post) P) : Wg w k In t Rel ((L, .frame ks) :: pre ++ (a, .dict (kvs.map fun p => (p.1, V.int p.2))) :: post) P := by
  intro A g s rest Q E c ok S i K
  have S0 : Sim w (((L, O.frame ks) :: pre) ++ (a, .dict (kvs.map fun p => (p.1, V.int p.2))) :: (post ++ rest)) s.heap g := by simpa using S
  obtain ⟨g2, S2, l2, r2⟩ := S0.freezeD
  refine h A g2 s rest Q E c ok ?_ (hin _ _ _ l2 i) fun a h' tk g' b own' hP S' l' => K a h' tk g' b own' hP S' (StaysIn.trans l2 l')
  have e : ((L, O.frame ks) :: pre) ++ (post ++ rest) = [] ++ (L, O.frame ks) :: (pre ++ (post ++ rest)) := rfl
  rw [e] at S2
  obtain ⟨_, _, oL, hoL, es, ep, d1, d2, d3⟩ := S2.ent (L, .frame ks) (by simp)
  have := S2.turn (y := .frame (setK x (.dct kvs) ks)) (Heap.SameBut.refl _ _) hoL ⟨es, ep, d1, d2, fun y u e => by
    rcases setK_lookup e with ⟨rfl, rfl⟩ | ⟨q, e⟩
    · obtain ⟨c, hc, rc⟩ := d3 _ _ hx
      rw [VR.raw_iff] at rc; subst rc
      exact ⟨_, hc, r2⟩
    · exact d3 y u e⟩
  rw [List.append_assoc]
  exact this

-- slices
theorem ent_intlist {a : Addr} {vs : List V} {h g : Heap} {o : Own} (S : Sim w o h g) (hm : (a, O.list vs) ∈ o) : ∃ cvs, h.IsList a (List.toArray cvs) ∧ VRs w g vs cvs := by
  obtain ⟨cvs, n, ho, r⟩ := ent_list S hm
  exact ⟨cvs, ⟨_, ho, rfl, n, rfl⟩, r⟩
theorem VRs.drop {g : Heap} : ∀ {vs : List V} {cs : List Value} {n : Nat}, VRs w g vs cs → VRs w g (vs.drop n) (cs.drop n)
  | _, _, 0, h => h
  | [], _, n + 1, h => by rw [VRs.nil_iff.mp h]; exact VRs.nil_iff.mpr rfl
  | _ :: _, _, n + 1, h => by obtain ⟨x, r, rfl, _, hr⟩ := VRs.cons_iff.mp h; simpa using VRs.drop (n := n) hr
/-- xs[n:] -/
theorem we_sliceFrom {value : Expr} {n : Int} {kk : Nat} {cp p pos : Pos} {P : V → Own → Prop} (h : WE w k env value own fun v o1 => ∃ a vs, v = .ref a ∧ (a, O.list vs) ∈ o1 ∧ n.toNat ≤ vs.length ∧ vs.length < 16777216 ∧ ∀ b, P (.ref b) (o1 ++ [(b, .list (vs.drop n.toNat))])) (hn : 0 ≤ n := by decide)
    (ht : ∀ o r, letTemporaryGo value o r = pure () := by intro _ _; rfl) : WE w k env (.Subscript value (.Slice (some (.Constant (.int n) kk cp)) none none p) pos) own P := by
  intro A g s rest Q E c ok S i K
  refine wpAny_Subscript_list_slice (h A g s rest _ _ c ok S i fun x h1 tk1 g1 v1 o1 h S1 l1 r1 => ?_) ht
  obtain ⟨a, vs, rfl, hm, hle, hlt, hP⟩ := h
  rw [VR.raw_iff] at r1; subst r1
  refine wpAny_evalPart_some (wpAny_Constant_int (wpAny_evalPart_none ?_))
  obtain ⟨cvs, hl, r⟩ := ent_intlist S1 (mem_app hm)
  refine ⟨a, _, some n, none, rfl, hl, by rw [List.size_toArray, r.length]; exact Nat.le_of_lt hlt, .int n _, .none, ?_⟩
  have S2 := (S1.ext (h' := h1.push { cls := .type "slice", data := .fields #[.int n tk1, .none, .none] }) fun b o e => Heap.get?_push_of_some _ e)
  have e1 : slicePick (List.toArray cvs) (some n) none none = (List.toArray (cvs.drop n.toNat)) := by
    have := slicePick_from (List.toArray cvs) n.toNat (by rw [List.size_toArray, r.length]; exact hle)
    rw [Int.toNat_of_nonneg hn] at this
    simpa using this
  rw [e1]
  have hsz : (h1.push { cls := .type "slice", data := .fields #[.int n tk1, .none, .none] }).objs.size = h1.objs.size + 1 := Heap.size_push ..
  have S3 := S2.pushE { cls := .type "list", data := .seq (List.toArray (cvs.drop n.toNat)) } (x := .list (vs.drop n.toNat)) ⟨_, 0, rfl, r.drop⟩
  rw [hsz] at S3
  exact K _ _ _ g1 (.ref (h1.objs.size + 1)) _ (hP _) S3 l1 (VR.raw_iff.mpr rfl)

/-- xs.reverse() -/
theorem we_reverse {o apos pos} {P : V → Own → Prop} (h : WE w k env o own fun v o1 => ∃ a vs own', v = .ref a ∧ At a (.list vs) (.list vs.reverse) o1 own' ∧ vs.length < 16777216 ∧ P .non own')
    (hbase : attributeBase o "reverse" env (eval o env) = eval o env := by rfl) (hline : (apos.endLine == pos.line) = true := by rfl) : WE w k env (.Call (.Attribute o "reverse" apos) [] [] pos) own P := by
  intro A g s rest Q E c ok S i K
  refine Call_method0 hbase hline (h A g s rest _ _ c ok S i fun x h1 tk1 g1 v1 o1 h S1 l1 r1 => ?_)
  obtain ⟨a, vs, own', rfl, m, hlt, hP⟩ := h
  rw [VR.raw_iff] at r1; subst r1
  obtain ⟨_, ho, cvs, n, rfl, r⟩ := S1.at (m.append rest)
  refine ⟨"list", "list.reverse", F.plainAttrs_list, F.slot_list_reverse, F.type_list_reverse, ⟨_, ho, rfl⟩, (fun b e => by cases e; exact ⟨_, ho, rfl⟩), ?_⟩
  refine PySem.P.reverse_list (s := { s with heap := h1, toks := tk1 }) (items := List.toArray cvs) (n := n) ho (K .none _ _ g1 .non _ hP (S1.turnAt (m.append rest) (Heap.SameBut.update ..) (Heap.get?_update_self _ ho rfl) ⟨cvs.reverse, n, ?_, r.reverse⟩) l1 (VR.raw_iff.mpr rfl)) (by rw [List.size_toArray, r.length]; exact Nat.le_of_lt hlt)
  simp [Obj.mapSeq, W.listOf]
end
end Mine

-- A11
namespace Mine
open PySem PySem.W PySem.Calls PyProof.Rows

/-- the code table of a def that makes one def: empty, or with that def's code -/
noncomputable def tabO (line col : Nat) (qual : Str) : O := .mon (fun g o => o = tabObj #[] ∨ ∃ c', o = tabObj #[rawInt line, rawInt col, .ref c'] ∧ g.CodeRec (.ref c') qual)
  fun _ _ _ k h => h.imp id fun ⟨c', e, c, o, vs, t, q1, q2, q3⟩ => ⟨c', e, c, o, vs, t, q1, k _ _ q2, q3⟩
/-- a def made in the call -/
noncomputable def fnO (name qual : Str) (params : Arguments) (body : List Stmt) (scope : Scope) (clos : List (Str × Addr)) : O :=
  .mon (fun g o => ∃ doc pm ctv cv, o = { cls := .type "function", data := .func (fnX name qual params body scope clos .none .none doc pm none cv ctv) } ∧ g.CodeRec cv qual)
  fun _ _ _ k ⟨doc, pm, ctv, cv, e, c, o, vs, t, q1, q2, q3⟩ => ⟨doc, pm, ctv, cv, e, c, o, vs, t, q1, k _ _ q2, q3⟩
theorem CodeRec.keeps' {h h' : Heap} {cd : Value} {q : Str} (x : h.CodeRec cd q) (k : h.StaysIn h') : h'.CodeRec cd q := by
  obtain ⟨c, o, vs, t, q1, q2, q3⟩ := x
  exact ⟨c, o, vs, t, q1, k _ _ q2, q3⟩

section
variable {w : World} {k : Nat} {env : Env} {own : Own}

theorem wcw_nest {f : Addr} {name qual : Str} {params : Arguments} {body : List Stmt} {scope : Scope} {clos : List (Str × Addr)} {e : Expr} {r : List Expr} {pos} {P : V → Own → Prop} (hm : (f, fnO name qual params body scope clos) ∈ own)
    (h : WEs w k env pos (e :: r) own fun vs o1 => (f, fnO name qual params body scope clos) ∈ o1 ∧ WC w k (.ref f) vs o1 P)
    (he : starEach (e :: r) env = (false, eval e env) :: starEach r env := by rfl) (hplain : (backTo pos (starEach r env)).any (·.1) = false := by rfl) : WCW w k env pos (.ref f) [] (e :: r) own P := by
  intro A g s rest Q E c ok S i K
  have fn : ∀ {o : Own} {h g : Heap}, (f, fnO name qual params body scope clos) ∈ o → Sim w o h g → FnAt f h := fun hm S => by
    obtain ⟨_, _, o, ho, _, _, _, _, e, _⟩ := S.ent _ hm
    subst e
    exact ⟨_, _, _, _, ho⟩
  refine callWith_F (fn (mem_app hm) S) (h A g s rest _ _ c ok S i fun a h1 tk1 g1 v1 o1 h S1 l1 r1 => ⟨fn (mem_app h.1) S1, ?_⟩) he hplain
  exact h.2 A g1 _ rest _ _ a ok S1 r1 fun a h3 tk3 g3 v3 o3 h S3 l3 r3 => K a h3 tk3 g3 v3 o3 h S3 (StaysIn.trans l1 l3) r3

theorem wc_nest {f : Addr} {name qual : Str} {params : Arguments} {body : List Stmt} {scope : Scope} {clos : List (Str × Addr)} {names : List Str} {vs : List V} {ks : List (Str × V)} {P : V → Own → Prop}
    (hm : (f, fnO name qual params body scope clos) ∈ own)
    (hb : ∀ fd cvs, fd.params = params → fd.defaults = .none → fd.kwdefaults = .none → cvs.length = vs.length → bindArgs fd ⟨cvs, []⟩ = pure (names.zip cvs)) (hks : (names.zip vs).reverse = ks)
    (hloc : ∀ x ∈ names, scope.names.lookup x = some .local) (hcell : ∀ x ∈ scope.names, x.2 ≠ .cell)
    (h : ∀ L cv, WSs w k (envX qual scope L f cv clos) body ((L, .frame ks) :: own) fun fl o => ∃ F o', o = (L, F) :: o' ∧ P (retV fl) o')
    (hco : scope.isCoroutine = false := by rfl) (hgen : scope.isGenerator = false := by rfl) (hk : scope.kind = .function := by rfl) : WC w (k + 2) (.ref f) vs own P := by
  intro A g s rest Q E cvs ok S r K
  obtain ⟨_, _, o, ho, doc, pm, ctv, cv, e, hcr⟩ := S.ent _ (mem_app (r := rest) hm)
  subst e
  exact call_core ok S r ho rfl (CodeRec.keeps' hcr S.sub) rfl (hb _ cvs rfl rfl rfl r.length) hks hloc hcell (fun L => h L cv) K hco hgen hk

/-- a def with three cells of its own -/
theorem wc_cells {f : Addr} {oc : Value} {od : Option Addr} {osl : Array (Option Value)} {fd : FuncData} {body : List Stmt} {names : List Str} {vs : List V} {ks : List (Str × V)} {x1 x2 x3 : Str} {o1 o2 o3 : O} {P : V → Own → Prop}
    (hl : (Mine.K w.params).lookup f = some ⟨oc, od, .func fd, osl⟩) (hcode : codeIn (Mine.K w.params) fd.code fd.qualname = true) (hbody : fd.body = .stmts body)
    (hb : ∀ cvs, cvs.length = vs.length → bindArgs fd ⟨cvs, []⟩ = pure (names.zip cvs))
    (hkind : ∀ n, ∀ x ∈ names, fd.scope.names.lookup x = some .local ∨ (fd.scope.names.lookup x = some .cell ∧ ((cellsFrom n fd.scope.names []).lookup x).isSome = true))
    (hcl : ∀ n, cellsFrom n fd.scope.names [] = [(x3, n + 2), (x2, n + 1), (x1, n)]) (hxx : x1 ≠ x2 ∧ x1 ≠ x3 ∧ x2 ≠ x3)
    (hF : ∀ g cvs, VRs w g vs cvs → ∀ x v, ks.lookup x = some v → ∃ c, bindL (fun x => fd.scope.names.lookup x) (names.zip cvs) (fun _ => none) x = some c ∧ VR w g v c)
    (hC : ∀ g cvs, VRs w g vs cvs → ∀ p ∈ [(x1, o1), (x2, o2), (x3, o3)], p.2 = .nocell ∨ ∃ v c, p.2 = .cell v ∧ bindC (fun x => fd.scope.names.lookup x) (names.zip cvs) (fun _ => none) p.1 = some c ∧ VR w g v c)
    (hclo : fd.closure = [])
    (h : ∀ L, WSs w k (newEnv fd.scope L fd.globals [(x3, L + 3), (x2, L + 2), (x1, L + 1)] (fd.qualname ++ ".<locals>.") (some f) fd.code none fd.builtins) body ((L, .frame ks) :: (L + 1, o1) :: (L + 2, o2) :: (L + 3, o3) :: own) fun fl o => ∃ F c1 c2 c3 o', o = (L, F) :: c1 :: c2 :: c3 :: o' ∧ P (retV fl) o')
    (hco : fd.scope.isCoroutine = false := by rfl) (hgen : fd.scope.isGenerator = false := by rfl) (hk : fd.scope.kind = .function := by rfl) : WC w (k + 2) (.ref f) vs own P := by
  intro A g s rest Q E cvs ok S r K
  obtain ⟨X, _, _, _, mg, mb, T, _⟩ := S.base
  refine wpAny_call (codeAny_call_function (by have := ok.2.1; omega) ((X.keeps S.sub) _ _ hl) rfl hco hgen hbody (codeRec_of (X.keeps S.sub) hcode) ?_)
  rw [hb cvs r.length, hclo]
  refine wpAny_pure (wpAny_newFunctionEnv_cells hk (fun x hx => hkind _ _ (List.of_mem_zip hx).1) fun env' he s' x => ?_)
  rw [hcl] at he
  subst he
  obtain ⟨h₁, tk, rfl, hk₁⟩ := x.done
  refine ⟨(T.nolimit.keeps S.sub).keeps hk₁, codeAny_func ?_⟩
  have S0 : Sim w (own ++ rest) h₁ g := S.ext hk₁
  obtain ⟨oL, es, ep, hoL, hdL, hkL, hmL⟩ := x.toInCall.ns
  have hlt : ∀ p ∈ own ++ rest, p.1 < s.heap.objs.size := fun p hp => S.lt hp
  have fr : ∀ j : Nat, g.get? (s.heap.objs.size + j) = none := fun j => by
    cases q : g.get? (s.heap.objs.size + j) with
    | none => rfl
    | some o => exact absurd (Heap.lt_size (S.sub _ _ q)) (Nat.not_lt.mpr (Nat.le_add_right _ _))
  have hne : ∀ j : Nat, s.heap.objs.size + j ∉ (own ++ rest).map (·.1) := fun j q => by
    obtain ⟨p, hp, e⟩ := List.mem_map.mp q
    exact absurd (hlt p hp) (Nat.not_lt.mpr (e ▸ Nat.le_add_right _ _))
  have cel : ∀ (y : Str) (j : Nat) (oo : O), [(x3, s.heap.objs.size + 1 + 2), (x2, s.heap.objs.size + 1 + 1), (x1, s.heap.objs.size + 1)].lookup y = some j → (y, oo) ∈ [(x1, o1), (x2, o2), (x3, o3)] → ∃ o, h₁.get? j = some o ∧ OR w g oo o := fun y j oo e hm => by
    obtain ⟨o, ho, hd⟩ := x.cell y j e
    refine ⟨o, ho, ?_⟩
    rcases hC g cvs r _ hm with q | ⟨v, c, q, b, rc⟩
    · dsimp only at q; subst q; exact ⟨_, hd⟩
    · dsimp only at q b; subst q
      exact ⟨c, hd.trans (congrArg Data.cell b), rc⟩
  have h3 := S.three
  have l1 : [(x3, s.heap.objs.size + 1 + 2), (x2, s.heap.objs.size + 1 + 1), (x1, s.heap.objs.size + 1)].lookup x1 = some (s.heap.objs.size + 1) := by
    simp [List.lookup, beq_eq_false_iff_ne.mpr hxx.1, beq_eq_false_iff_ne.mpr hxx.2.1]
  have l2 : [(x3, s.heap.objs.size + 1 + 2), (x2, s.heap.objs.size + 1 + 1), (x1, s.heap.objs.size + 1)].lookup x2 = some (s.heap.objs.size + 1 + 1) := by
    simp [List.lookup, beq_eq_false_iff_ne.mpr hxx.2.2]
  have l3 : [(x3, s.heap.objs.size + 1 + 2), (x2, s.heap.objs.size + 1 + 1), (x1, s.heap.objs.size + 1)].lookup x3 = some (s.heap.objs.size + 1 + 2) := by
    simp [List.lookup]
  obtain ⟨p1, q1, r1⟩ := cel x1 _ o1 l1 (by simp)
  obtain ⟨p2, q2, r2⟩ := cel x2 _ o2 l2 (by simp)
  obtain ⟨p3, q3, r3⟩ := cel x3 _ o3 l3 (by simp)
  have S3 := S0.cons (a := s.heap.objs.size + 3) (Nat.lt_add_right 3 h3) (fr 3) q3 r3 (hne 3)
  have S2 := S3.cons (a := s.heap.objs.size + 2) (Nat.lt_add_right 2 h3) (fr 2) q2 r2 (by rw [List.map_cons, List.mem_cons, not_or]; exact ⟨by simp, hne 2⟩)
  have S1 := S2.cons (a := s.heap.objs.size + 1) (Nat.lt_add_right 1 h3) (fr 1) q1 r1 (by rw [List.map_cons, List.mem_cons, not_or, List.map_cons, List.mem_cons, not_or]; exact ⟨by simp, by simp, hne 1⟩)
  have SL := S1.cons (a := s.heap.objs.size) (x := .frame ks) h3 (fr 0) hoL ⟨es, ep, hdL, hkL, fun y v e => by
    obtain ⟨c, b, rc⟩ := hF g cvs r y v e
    exact ⟨c, (hmL y).trans b, rc⟩⟩ (by rw [List.map_cons, List.mem_cons, not_or, List.map_cons, List.mem_cons, not_or, List.map_cons, List.mem_cons, not_or]; exact ⟨by simp, by simp, by simp, hne 0⟩)
  refine h s.heap.objs.size (A.deeper _) g { s with heap := h₁, toks := tk } rest _ _ () (Ok.deeper (Ok.le ok (by omega))) SL trivial fun fl h2 tk2 g2 fv ow hP S2 l2 r2 => ?_
  obtain ⟨F, c1, c2, c3, o', rfl, hP⟩ := hP
  have S3 : Sim w (o' ++ rest) h2 g2 := S2.sublist ((((List.sublist_cons_self _ _).trans (List.sublist_cons_self _ _)).trans (List.sublist_cons_self _ _)).trans (List.sublist_cons_self _ _))
  cases fv with
  | next => cases r2; exact K .none h2 tk2 g2 _ o' hP S3 l2 (VR.raw_iff.mpr rfl)
  | brk => cases r2; exact K .none h2 tk2 g2 _ o' hP S3 l2 (VR.raw_iff.mpr rfl)
  | cont => cases r2; exact K .none h2 tk2 g2 _ o' hP S3 l2 (VR.raw_iff.mpr rfl)
  | ret v => obtain ⟨c, rfl, r2⟩ := r2; exact K c h2 tk2 g2 _ o' hP S3 l2 r2

/-- def .. in a def -/
theorem ws_Def {name : Str} {params : Arguments} {body : List Stmt} {scope : Scope} {pos : Pos} {c Pt : Addr} {clos : List (Str × Addr)} {P : FV → Own → Prop} {pre post : Own}
    (hc : (c, Pt) ∈ [(41, 37), (34, 30)]) (hcode : env.code = .ref c) (hge0 : env.globals = mainGlobals) (hcl : closureFor scope env = pure clos) (hd0 : params.defaults = []) (hk0 : params.kw_defaults = []) (ha : annTrees params none env = [])
    (hown : own = pre ++ (Pt, tabO pos.line pos.col (qualnameIn env name name)) :: post)
    (h : ∀ f, W1 w k (.ref f) (fun c => storeName env name c) UR ((pre ++ (Pt, tabO pos.line pos.col (qualnameIn env name name)) :: post) ++ [(f, fnO name (qualnameIn env name name) params body scope clos)]) fun _ o => P .next o) : WS w k env (.FunctionDef name params body [] none [] scope none name pos) own P := by
  intro A g s rest Q E cc ok S i K
  subst hown
  obtain ⟨X, p, loose, mean, mg, mb, T, CA⟩ := S.base
  have C : CodeHd g c Pt := by
    simp only [List.mem_cons, Prod.mk.injEq, List.not_mem_nil, or_false] at hc
    rcases hc with ⟨rfl, rfl⟩ | ⟨rfl, rfl⟩
    · exact CA.1
    · exact CA.2.1
  obtain ⟨_, hgn, oP, hoP, hE⟩ := S.ent (Pt, tabO pos.line pos.col (qualnameIn env name name)) (by simp)
  have hgs := T.g.keeps S.sub
  obtain ⟨bm, ob, b1, b2, b3, b4, b5, b6⟩ := T.bmain
  have hgP : mainGlobals ≠ Pt := fun q => by
    obtain ⟨o, es, ep, e, hd, _⟩ := T.g
    rw [q, hgn] at e; cases e
  have hbP : bm ≠ Pt := fun q => by rw [q, hgn] at b3; cases b3
  have hbG : bm ≠ mainGlobals := fun q => by
    obtain ⟨o, es, ep, e, hd, _⟩ := T.g
    rw [q, e] at b3; cases b3; rw [hd] at b6; cases b6
  have BA : s.heap.BuiltinsAt mg Pt := ⟨bm, ob, b1, b2, hbG, hbP, S.sub _ _ b3, b4, b5, b6⟩
  refine nestDef_K hd0 hk0 ha ?_
  -- whichever way, the function object stands on a heap where the table is as told
  have fin : ∀ (h2 : Heap) (tk : Nat) (g2 : Heap) (f : Addr), Sim w (((pre ++ (Pt, tabO pos.line pos.col (qualnameIn env name name)) :: post) ++ [(f, fnO name (qualnameIn env name name) params body scope clos)]) ++ rest) h2 g2 → g.StaysIn g2 →
      wpAny (model PG w) A (storeName env name (.ref f)) (fun _ s'' => Q .next s'') E { s with heap := h2, toks := tk } := fun h2 tk g2 f S2 l2 =>
    h f A g2 { s with heap := h2, toks := tk } rest _ _ (.ref f) ok S2 (VR.raw_iff.mpr rfl) fun _ h3 tk3 g3 _ o3 hP S3 l3 _ => K .next h3 tk3 g3 .next o3 hP S3 (StaysIn.trans l2 l3) rfl
  rcases hE with e | ⟨c', e, hrec⟩
  · subst e
    refine makeFunction_K (mg := mg) hcl hge0 hgs hcode (C.keeps S.sub) hoP trivial rfl hgP BA fun c' ctv doc h' tk hx hge hlt hrec htb => ?_
    obtain ⟨c₂, oc, vs, t, e2, hoc, hd, hv⟩ := hrec
    cases e2
    have S1 : Sim w ((pre ++ [(Pt, O.such fun o => o = tabObj #[rawInt pos.line, rawInt pos.col, .ref c'])]) ++ (post ++ rest)) h' g := by
      refine Sim.turns (mid := [(Pt, tabO pos.line pos.col (qualnameIn env name name))]) (h := s.heap) (by simpa using S) rfl (fun b o q e => hx b o (fun z => q (by simp [z])) e) fun q hq => ?_
      rw [List.mem_singleton.mp hq]
      exact ⟨_, htb, by simp; rfl⟩
    obtain ⟨g2, S2, l2, e2⟩ := S1.fullAt hoc (fun q hq => by
      have : q.1 ∈ ((pre ++ (Pt, tabO pos.line pos.col (qualnameIn env name name)) :: post) ++ rest).map (·.1) := by
        have := List.mem_map_of_mem (f := (·.1)) hq
        simpa using this
      obtain ⟨q', hq', e⟩ := List.mem_map.mp this
      exact Nat.ne_of_lt (Nat.lt_of_lt_of_le (e ▸ S.lt hq') hge))
    have rec2 : g2.CodeRec (.ref c') (qualnameIn env name name) := ⟨c', oc, vs, t, rfl, e2, hd, hv⟩
    have S3 : Sim w ((pre ++ (Pt, tabO pos.line pos.col (qualnameIn env name name)) :: post) ++ rest) h' g2 := by
      have := S2.turns (pre := pre) (rest := post ++ rest) (mid' := [(Pt, tabO pos.line pos.col (qualnameIn env name name))]) (h' := h') rfl (fun b o _ e => e) fun q hq => by
        rw [List.mem_singleton.mp hq]
        exact ⟨_, htb, .inr ⟨c', by simp, rec2⟩⟩
      simpa using this
    exact fin _ tk g2 h'.objs.size (S3.pushE _ ⟨doc, _, ctv, .ref c', rfl, rec2⟩) l2
  · subst e
    have hf : codeAmong pos (#[rawInt pos.line, rawInt pos.col, Value.ref c'] : Array Value).toList = some (.ref c') := by
      show (if ((pos.line : Int) == (pos.line : Int) && (pos.col : Int) == (pos.col : Int)) = true then some (Value.ref c') else _) = _
      simp
    refine makeFunction_hit (mg := mg) hcl hge0 hgs hcode (C.keeps S.sub) hoP trivial hf BA fun ctv doc h' tk hk hsz => ?_
    exact fin _ tk g h'.objs.size ((S.ext hk).pushE _ ⟨doc, _, ctv, .ref c', rfl, hrec⟩) (StaysIn.refl _)
end
end Mine

-- A12
namespace Mine
open PySem PySem.W PySem.Calls PyProof.Rows
open PySem.SeqAt PySem.AutoSeq1 PySem.MeetsSeq PySem.MeetsSeq2 PySem.MeetsSeq3 PySem.SeqRoads2

noncomputable def ltL : List Int → List Int → Bool
  | x :: xs, y :: ys => if x = y then ltL xs ys else decide (x < y)
  | [], _ :: _ => true
  | _, [] => false

theorem ltL_drop : ∀ (xs ys : List Int) (i : Nat), min xs.length ys.length ≤ i → ltL (xs.drop (min xs.length ys.length)) (ys.drop (min xs.length ys.length)) = decide (xs.length < ys.length)
  | xs, ys, _, _ => by
    by_cases h : xs.length < ys.length
    · rw [Nat.min_eq_left (Nat.le_of_lt h)]
      simp only [List.drop_length]
      have : ys.drop xs.length ≠ [] := by simp; omega
      cases q : ys.drop xs.length with
      | nil => exact absurd q this
      | cons a r => simp [ltL, h]
    · rw [Nat.min_eq_right (by omega)]
      simp only [List.drop_length]
      cases xs.drop ys.length <;> simp [ltL, h]

set_option maxHeartbeats 1000000 in
theorem tuple_ltAt (l b : Addr) (items items2 : Array Value) (n n2 : Nat) (dd dd2 : Option Addr) (sl sl2 : Array (Option Value)) (xs ys : List Int) (ix : IntsAre items.toList xs) (iy : IntsAre items2.toList ys) :
    Meets (Builtin.«tuple.__lt__» ⟨[.ref l, .ref b], []⟩)
      (fun _ R s => s.heap.get? l = some { cls := .type "tuple", dict := dd, data := .seq items n, slots := sl } ∧ s.heap.get? b = some { cls := .type "tuple", dict := dd2, data := .seq items2 n2, slots := sl2 } ∧
        R (.ok (.ret (.bool (ltL xs ys)))) s) :=
  .of_wp fun prog w A R s h => by
    obtain ⟨hp, g, d, tk, os⟩ := s; obtain ⟨hl, hb, h⟩ := h
    have f2 := AutoSeq1.sub_tuple_tuple
    have lx : items.size = xs.length := by have := ix.length; simpa using this
    have ly : items2.size = ys.length := by have := iy.length; simpa using this
    have hZ : (items.toList.zip items2.toList).length = min items.size items2.size := by simp
    wp_walk using wpAny_loadPart' hl, wpAny_loadPart' hb, wpAny_forIn_list _ (fun rest b s' => b.1 = none ∧ s' = ⟨hp, g, d, tk, os⟩ ∧ ∃ i, rest = (items.toList.zip items2.toList).drop i ∧ i ≤ min items.size items2.size ∧
      R (.ok (.ret (.bool (ltL (xs.drop i) (ys.drop i))))) ⟨hp, g, d, tk, os⟩) _
    case turn =>
      rintro ⟨y, x⟩ rest b s' ⟨hb', rfl, i, hz, hi, hR⟩
      have hlt : i < (items.toList.zip items2.toList).length := by
        rcases Nat.lt_or_ge i (items.toList.zip items2.toList).length with h' | h'
        · exact h'
        · rw [List.drop_of_length_le h'] at hz; cases hz
      have hm : i < min items.size items2.size := hZ ▸ hlt
      have h1 : i < items.size := Nat.lt_of_lt_of_le hm (Nat.min_le_left _ _)
      have h2 : i < items2.size := Nat.lt_of_lt_of_le hm (Nat.min_le_right _ _)
      rw [List.drop_eq_getElem_cons hlt] at hz
      injection hz with hyx hrest
      have hy : y = items[i] := by have := congrArg Prod.fst hyx; simpa using this
      have hx : x = items2[i] := by have := congrArg Prod.snd hyx; simpa using this
      have g1 : i < xs.length := lx ▸ h1
      have g2 : i < ys.length := ly ▸ h2
      obtain ⟨t, e1⟩ := ix.get i xs[i] (List.getElem?_eq_getElem g1)
      obtain ⟨u, e2⟩ := iy.get i ys[i] (List.getElem?_eq_getElem g2)
      have hy' : y = .int xs[i] t := by rw [hy]; have : items[i]? = some (.int xs[i] t) := by simpa using e1
                                        rw [Array.getElem?_eq_getElem h1] at this; exact Option.some.inj this
      have hx' : x = .int ys[i] u := by rw [hx]; have : items2[i]? = some (.int ys[i] u) := by simpa using e2
                                        rw [Array.getElem?_eq_getElem h2] at this; exact Option.some.inj this
      subst hy' hx'
      rw [List.drop_eq_getElem_cons g1, List.drop_eq_getElem_cons g2, ltL] at hR
      refine wpAny_bind (wpAny_eqBool_int ?_)
      by_cases q : xs[i] = ys[i]
      · rw [if_pos q] at hR
        have qb : (xs[i] == ys[i]) = true := by simpa using q
        rw [qb]
        wp_walk
        exact ⟨rfl, rfl, i + 1, hrest, hm, hR⟩
      · rw [if_neg q] at hR
        have qb : (xs[i] == ys[i]) = false := by simpa using q
        rw [qb]
        show wpAny _ _ (if (!false) = true then _ else _) _ _ _
        rw [if_pos (by decide)]
        refine wpAny_bind (wpAny_rule (wpAny_bind ?_))
        refine (wpAny_lt_int ?_ : wpAny _ _ (compareOp .Lt (.int xs[i] t) (.int ys[i] u)) _ _ _)
        refine wpAny_bind (wpAny_pure (wpAny_pure ?_))
        show wpAny _ _ (pure _) _ _ _
        exact wpAny_pure ⟨_, rfl, hR⟩
    case fin =>
      rintro ⟨b1, b2⟩ s' ⟨hb', rfl, i, hz, hi, hR⟩
      simp only at hb'
      subst hb'
      have hge : i = min items.size items2.size := by
        rcases Nat.lt_or_ge i (items.toList.zip items2.toList).length with h' | h'
        · rw [List.drop_eq_getElem_cons h'] at hz; cases hz
        · exact Nat.le_antisymm hi (hZ ▸ h')
      subst hge
      rw [lx, ly, ltL_drop _ _ _ (Nat.le_refl _)] at hR
      wp_walk
      exact ⟨_, rfl, by simpa [Builtin.Tuple.tupleCompareSizes, lx, ly] using hR⟩
    case h =>
      exact ⟨rfl, rfl, 0, rfl, Nat.zero_le _, by simpa using h⟩

theorem ints_of {w : World} {g : Heap} : ∀ {xs : List Int} {cs : List Value}, VRs w g (xs.map V.int) cs → IntsAre cs xs
  | [], _, h => by rw [VRs.nil_iff.mp h]; exact .nil
  | _ :: _, _, h => by
    obtain ⟨x, r, rfl, hx, hr⟩ := VRs.cons_iff.mp h
    obtain ⟨t, rfl⟩ := VR.int_iff.mp hx
    exact .cons _ t (ints_of hr)
theorem of_ints {w : World} {g : Heap} : ∀ {xs : List Int} {cs : List Value}, IntsAre cs xs → VRs w g (xs.map V.int) cs
  | _, _, .nil => VRs.nil_iff.mpr rfl
  | _, _, .cons _ t r => VRs.cons_iff.mpr ⟨_, _, rfl, VR.int_iff.mpr ⟨t, rfl⟩, of_ints r⟩

/-- deep equality of abstract values, n deep -/
noncomputable def eqV : Nat → V → V → Bool
  | 0, _, _ => false
  | _ + 1, .int i, .int j => i == j
  | n + 1, .tup xs, .tup ys => xs.length == ys.length && (xs.zip ys).all fun p => eqV n p.1 p.2
  | _ + 1, .dct xs, .dct ys => xs.length == ys.length && xs.all fun p => lookD ys p.1 == some p.2
  | _ + 1, _, _ => false

section
variable {w : World} {k : Nat} {own : Own}

theorem w2_tuplt {xs ys : List Int} {P : V → Own → Prop} (h : P (.bool (ltL xs ys)) own) : W2 w k (.tup (xs.map V.int)) (.tup (ys.map V.int)) (compareOp .Lt) (VR w) own P := by
  rintro A g s rest Q E ⟨a, b⟩ ok S ⟨r1, r2⟩ K
  obtain ⟨l, c1, e1, t1, q1⟩ := VR.tup_iff.mp r1
  obtain ⟨m, c2, e2, t2, q2⟩ := VR.tup_iff.mp r2
  dsimp only at e1 e2 ⊢
  subst e1 e2
  obtain ⟨⟨cls, dd, data, sl⟩, ho, hc, n, hd⟩ := t1.keeps S.sub
  obtain ⟨⟨cls2, dd2, data2, sl2⟩, ho2, hc2, n2, hd2⟩ := t2.keeps S.sub
  simp only at hc hd hc2 hd2
  subst hc hd hc2 hd2
  have KK := K (.bool (ltL xs ys)) s.heap s.toks g _ _ h S (StaysIn.refl _) (VR.raw_iff.mpr rfl)
  exact richCompare_meets_room (op := .Lt) ⟨_, ho, rfl⟩ ⟨_, ho2, rfl⟩ F.slot_tuple_lt F.entry_tuple_lt (F.args_tuple_lt_2 _ _) (tuple_ltAt l m (List.toArray c1) (List.toArray c2) n n2 dd dd2 sl sl2 xs ys (by simpa using ints_of q1) (by simpa using ints_of q2))
    ⟨ho, ho2, show Value.bool (ltL xs ys) ≠ Value.notImplemented ∧ Q (.bool (ltL xs ys)) s from ⟨(fun x => nomatch x), KK⟩⟩ (by have := ok.2.2; omega)

theorem DR_look {kvs : List (Int × Int)} {cvs : List (Int × Value)} (r : DR kvs cvs) {i j : Int} (h : lookD kvs i = some j) : ∃ t, valueAt cvs i = some (.int j t) := by
  induction kvs generalizing cvs with
  | nil => simp [lookD] at h
  | cons p ps ih =>
    obtain ⟨t, c', rfl, hr⟩ := r
    simp only [lookD, List.find?_cons] at h
    by_cases q : p.1 = i
    · simp only [q, decide_true, Option.map_some, Option.some.injEq] at h
      exact ⟨t, by simp [valueAt, q, h]⟩
    · simp only [q, decide_false] at h
      obtain ⟨t', e⟩ := ih hr h
      exact ⟨t', by simp only [valueAt, List.find?_cons, q, decide_false] at e ⊢; exact e⟩
theorem DR_hits {A : Around} {s : Shared} {kb : List (Int × Value)} {ys : List (Int × Int)} (rb : DR ys kb) : ∀ {xs : List (Int × Int)} {ka : List (Int × Value)}, DR xs ka → (xs.all fun p => lookD ys p.1 == some p.2) = true → KeqHits A s kb ka true
  | [], _, h, _ => by rw [show _ = [] from h]; exact .nil
  | p :: ps, _, ⟨t, c', e, hr⟩, h => by
    subst e
    simp only [List.all_cons, Bool.and_eq_true, beq_iff_eq] at h
    obtain ⟨u, hu⟩ := DR_look rb h.1
    have := KeqHits.hit (A := A) (s := s) (k := p.1) hu (EqAt.int_int p.2 t p.2 u) (DR_hits rb hr h.2)
    simpa using this
theorem pairs_any {prog : Program} {w' : World} : ∀ {es : List DictEntry} {c : List (Int × Value)}, Pairs (KI w) es c → Pairs (intKind prog w') es c
  | _, _, .nil => .nil
  | _, _, .cons a b r => .cons a b (pairs_any r)
theorem dictOf_any {prog : Program} {w' : World} {h : Heap} {a : Addr} {c : List (Int × Value)} (d : h.DictOf (KI w) a c) : h.DictOf (intKind prog w') a c := by
  obtain ⟨o, es, ep, a1, a2, a3, a4, a5, a6⟩ := d
  exact ⟨o, es, ep, a1, a2, a3, a4, pairs_any a5, a6⟩
theorem all_tt (n : Nat) : ((List.range n).all fun _ => true) = true := List.all_eq_true.mpr fun _ _ => rfl
theorem VRs.at {g : Heap} {vs : List V} {cs : List Value} (q : VRs w g vs cs) {j : Nat} (hj : j < (List.toArray cs).size) : ∃ h : j < vs.length, VR w g vs[j] (List.toArray cs)[j] := by
  have g1 : j < vs.length := q.length ▸ hj
  obtain ⟨d, e, r⟩ := q.get (List.getElem?_eq_getElem g1)
  exact ⟨g1, (Option.some.inj ((List.getElem?_eq_getElem hj).symm.trans e) : cs[j] = d) ▸ r⟩
theorem zip_mem {xs ys : List V} {j : Nat} (g1 : j < xs.length) (g2 : j < ys.length) : (xs[j], ys[j]) ∈ xs.zip ys :=
  List.mem_iff_getElem.mpr ⟨j, by rw [List.length_zip]; exact Nat.lt_min.mpr ⟨g1, g2⟩, List.getElem_zip⟩
theorem eqV_at {s : Shared} {g : Heap} (hs : g.StaysIn s.heap) : ∀ (n : Nat) {A : Around} {x y : V} {a b : Value}, A.units + n < cLine → eqV n x y = true → VR w g x a → VR w g y b → EqAt A s a b true
  | 0, _, _, _, _, _, _, h, _, _ => nomatch (show false = true from h)
  | n + 1, A, .int i, .int j, a, b, hu, h, ra, rb => by
    obtain ⟨t, rfl⟩ := VR.int_iff.mp ra
    obtain ⟨u, rfl⟩ := VR.int_iff.mp rb
    have e : i = j := eq_of_beq (show (i == j) = true from h)
    subst e
    exact (show (i == i) = true from beq_self_eq_true i) ▸ EqAt.int_int (A := A) (s := s) i t i u
  | n + 1, A, .tup xs, .tup ys, a, b, hu, h, ra, rb => by
    obtain ⟨l, c1, rfl, t1, q1⟩ := VR.tup_iff.mp ra
    obtain ⟨m, c2, rfl, t2, q2⟩ := VR.tup_iff.mp rb
    by_cases hlm : l = m
    · subst hlm; exact EqAt.same _
    · refine EqAt.of_refs hlm ?_
      have h := Bool.and_eq_true_iff.mp (show (xs.length == ys.length && (xs.zip ys).all fun p => eqV n p.1 p.2) = true from h)
      have hsz : (List.toArray c1).size = (List.toArray c2).size := q1.length.trans ((eq_of_beq h.1).trans q2.length.symm)
      have R := RcAt.tuples (A := A) (s := s) (e := fun _ => true) (t1.keeps hs) (t2.keeps hs) (by omega) (fun j h1 h2 => by
        obtain ⟨g1, r1⟩ := q1.at h1
        obtain ⟨g2, r2⟩ := q2.at h2
        exact eqV_at hs n (A := A.in1) (show A.units + 1 + n < cLine from Nat.add_right_comm A.units 1 n ▸ hu) (List.all_eq_true.mp h.2 _ (zip_mem g1 g2)) r1 r2)
      rw [hsz, all_tt, beq_self_eq_true] at R
      exact R
  | n + 1, A, .dct xs, .dct ys, a, b, hu, h, ra, rb => by
    obtain ⟨l, c1, rfl, z1, d1, q1⟩ := VR.dct_iff.mp ra
    obtain ⟨m, c2, rfl, z2, d2, q2⟩ := VR.dct_iff.mp rb
    by_cases hlm : l = m
    · subst hlm; exact EqAt.same _
    · refine EqAt.of_refs hlm ?_
      have h := Bool.and_eq_true_iff.mp (show (xs.length == ys.length && xs.all fun p => lookD ys p.1 == some p.2) = true from h)
      intro prog w' E Q hq
      refine (keq_eq (A := A) (r := true) (notSys z1) (notSys z2) (dictOf_any (d1.keep hs)) (dictOf_any (d2.keep hs)) (by omega) (fun _ => DR_hits q2 q1 h.2) ?_ : wpAny _ _ (compareOp .Eq (.ref l) (.ref m)) _ _ _)
      have : (c1.length == c2.length && true) = true := by rw [q1.length, q2.length, h.1]; rfl
      rw [this]; exact hq
  | _ + 1, _, .raw _, _, _, _, _, h, _, _ => nomatch (show false = true from h)
  | _ + 1, _, .int _, .raw _, _, _, _, h, _, _ => nomatch (show false = true from h)
  | _ + 1, _, .int _, .tup _, _, _, _, h, _, _ => nomatch (show false = true from h)
  | _ + 1, _, .int _, .dct _, _, _, _, h, _, _ => nomatch (show false = true from h)
  | _ + 1, _, .tup _, .raw _, _, _, _, h, _, _ => nomatch (show false = true from h)
  | _ + 1, _, .tup _, .int _, _, _, _, h, _, _ => nomatch (show false = true from h)
  | _ + 1, _, .tup _, .dct _, _, _, _, h, _, _ => nomatch (show false = true from h)
  | _ + 1, _, .dct _, .raw _, _, _, _, h, _, _ => nomatch (show false = true from h)
  | _ + 1, _, .dct _, .int _, _, _, _, h, _, _ => nomatch (show false = true from h)
  | _ + 1, _, .dct _, .tup _, _, _, _, h, _, _ => nomatch (show false = true from h)

/-- two owned lists, item by item equal: != says False -/
theorem w2_ne_list {l m : Addr} {xs ys : List V} {P : V → Own → Prop} (h : P (.bool false) own) (h1 : (l, O.list xs) ∈ own) (h2 : (m, O.list ys) ∈ own) (he : eqV 6 (.tup xs) (.tup ys) = true) : W2 w k (.ref l) (.ref m) (compareOp .NotEq) (VR w) own P := by
  rintro A g s rest Q E ⟨a, b⟩ ok S ⟨r1, r2⟩ K
  rw [VR.raw_iff] at r1 r2
  dsimp only at r1 r2 ⊢
  subst r1 r2
  obtain ⟨c1, l1, q1⟩ := ent_intlist S (mem_app h1)
  obtain ⟨c2, l2, q2⟩ := ent_intlist S (mem_app h2)
  have he := Bool.and_eq_true_iff.mp (show (xs.length == ys.length && (xs.zip ys).all fun p => eqV 5 p.1 p.2) = true from he)
  have hsz : (List.toArray c1).size = (List.toArray c2).size := q1.length.trans ((eq_of_beq he.1).trans q2.length.symm)
  have hu := ok.2.2
  have R := RcNeAt.lists (A := A) (s := s) (e := fun _ => true) l1 l2 hsz (by omega) (fun j h1 h2 => by
    obtain ⟨g1, r1⟩ := q1.at h1
    obtain ⟨g2, r2⟩ := q2.at h2
    exact eqV_at S.sub 5 (A := A.in1) (by show A.units + 1 + 5 < cLine; omega) (List.all_eq_true.mp he.2 _ (zip_mem g1 g2)) r1 r2)
  rw [all_tt] at R
  refine (R PG w E _ ?_ : wpAny _ _ (richCompare .NotEq (.ref l) (.ref m)) _ _ _)
  have := K (.bool false) s.heap s.toks g _ _ h S (StaysIn.refl _) (VR.raw_iff.mpr rfl)
  simpa using this

theorem KR_hits {A : Around} {s : Shared} {g : Heap} (hs : g.StaysIn s.heap) {n : Nat} (hu : A.units + n < cLine) {kb : List (Int × Value)} {ys : List (Int × V)} (rb : KR w g ys kb) : ∀ {xs : List (Int × V)} {ka : List (Int × Value)}, KR w g xs ka → (xs.all fun p => match lookD ys p.1 with | some v => eqV n p.2 v | none => false) = true → KeqHits A s kb ka true
  | [], _, h, _ => by rw [show _ = [] from h]; exact .nil
  | p :: ps, _, ⟨x, c', e, hx, hr⟩, h => by
    subst e
    simp only [List.all_cons, Bool.and_eq_true] at h
    cases q : lookD ys p.1 with
    | none => rw [q] at h; exact absurd h.1 Bool.false_ne_true
    | some v =>
      rw [q] at h
      obtain ⟨c, hc, rc⟩ := rb.look q
      have := KeqHits.hit (A := A) (s := s) (k := p.1) hc (eqV_at hs n hu h.1 hx rc) (KR_hits hs hu rb hr h.2)
      simpa using this
/-- two owned dicts, key by key equal: == says True -/
theorem w2_eq_dict {l m : Addr} {xs ys : List (Int × V)} {P : V → Own → Prop} (h : P (.bool true) own) (h1 : (l, O.dict xs) ∈ own) (h2 : (m, O.dict ys) ∈ own) (hlen : xs.length = ys.length)
    (he : (xs.all fun p => match lookD ys p.1 with | some v => eqV 6 p.2 v | none => false) = true) : W2 w k (.ref l) (.ref m) (compareOp .Eq) (VR w) own P := by
  rintro A g s rest Q E ⟨a, b⟩ ok S ⟨r1, r2⟩ K
  rw [VR.raw_iff] at r1 r2
  dsimp only at r1 r2 ⊢
  subst r1 r2
  obtain ⟨z1, c1, d1, q1⟩ := ent_dict S (mem_app h1)
  obtain ⟨z2, c2, d2, q2⟩ := ent_dict S (mem_app h2)
  have hu := ok.2.2
  refine keq_eq (knd := KI w) (r := true) z1 z2 d1 d2 (by omega) (fun _ => KR_hits S.sub (n := 6) (by show A.units + 1 + 6 < cLine; omega) q2 q1 he) ?_
  have := K (.bool true) s.heap s.toks g _ _ h S (StaysIn.refl _) (VR.raw_iff.mpr rfl)
  have e : (c1.length == c2.length && true) = true := by simp [q1.length, q2.length, hlen]
  rw [e]; exact this
end
end Mine

-- B0
set_option maxRecDepth 100000
set_option maxHeartbeats 0
namespace Mine
open PySem PySem.W PySem.Calls PyProof.Rows

noncomputable def exitP (R : Own → Prop) (P : FV → Own → Prop) : FV → Own → Prop
  | .next, o => R o
  | .brk, o => P .brk o
  | .cont, o => P .cont o
  | .ret v, o => P (.ret v) o
theorem ws_WhileR {w : World} {k : Nat} {env : Env} {own : Own} {t b pos} {P : FV → Own → Prop} (I : Nat → Own → Prop) (R : Own → Prop)
    (turn : ∀ n o, I n o → WB w k env t o fun c o1 => if c then WSs w k env b o1 (loopP (exitP R P) fun o => ∃ m, m < n ∧ I m o) else R o1) (n : Nat) (h : I n own) (fin : ∀ o, R o → P .next o) : WS w k env (.While t b [] pos) own P := by
  refine Wg.mono (P := exitP R P) (ws_While I (fun n o hI => (turn n o hI).mono fun c o1 h => ?_) n h) fun f o h => ?_
  · cases c with
    | false => exact wss_nil h
    | true => exact h
  · cases f with
    | next => exact fin o h
    | brk => exact h
    | cont => exact h
    | ret v => exact h

theorem lk_hit {x : Str} {v : V} : ∀ {ks : List (Str × V)}, (setK x v ks).lookup x = some v
  | [] => by simp [setK, List.lookup]
  | p :: r => by
    unfold setK
    by_cases q : (x == p.1) = true
    · rw [if_pos q]; simp [List.lookup]
    · rw [if_neg q]
      have q0 : (x == p.1) = false := by simpa using q
      simp only [List.lookup, q0]
      exact lk_hit
theorem lk_miss {x y : Str} {v : V} (h : (y == x) = false) : ∀ {ks : List (Str × V)} {r : Option V}, ks.lookup y = r → (setK x v ks).lookup y = r
  | [], r, e => by simp only [setK, List.lookup, h]; exact e
  | p :: rr, r, e => by
    unfold setK
    by_cases q : (x == p.1) = true
    · rw [if_pos q]
      have q' := eq_of_beq q
      simp only [List.lookup, h]
      simp only [List.lookup, ← q', h] at e
      exact e
    · rw [if_neg q]
      simp only [List.lookup] at e ⊢
      cases z : (y == p.1) with
      | true => rw [z] at e; exact e
      | false => rw [z] at e; exact lk_miss h e


section
variable {w : World} {k : Nat} {env : Env} {own : Own} {r : List Stmt} {P : FV → Own → Prop} {R I : Own → Prop} {v : V}
theorem seqP_next (h : WSs w k env r own P) : seqP w k env r P .next own := h
theorem seqP_cont (h : P .cont own) : seqP w k env r P .cont own := h
theorem seqP_brk (h : P .brk own) : seqP w k env r P .brk own := h
theorem seqP_ret (h : P (.ret v) own) : seqP w k env r P (.ret v) own := h
theorem loopP_next (h : I own) : loopP P I .next own := h
theorem loopP_cont (h : I own) : loopP P I .cont own := h
theorem loopP_brk (h : P .next own) : loopP P I .brk own := h
theorem loopP_ret (h : P (.ret v) own) : loopP P I (.ret v) own := h
theorem exitP_next (h : R own) : exitP R P .next own := h
theorem exitP_cont (h : P .cont own) : exitP R P .cont own := h
theorem exitP_brk (h : P .brk own) : exitP R P .brk own := h
theorem exitP_ret (h : P (.ret v) own) : exitP R P (.ret v) own := h
theorem bool_post {c : Bool} {Q : Bool → Prop} (h : Q c) : ∃ b, V.bool c = V.bool b ∧ Q b := ⟨c, rfl, h⟩
end
noncomputable abbrev Lk (ks : List (Str × V)) (x : Str) (v : V) : Prop := ks.lookup x = some v
theorem Wg.abs {γ α β : Type} {w : World} {k : Nat} {own : Own} {In : Heap → γ → Prop} {t : γ → Sem α} {Rel : Heap → β → α → Prop} {P : β → Own → Prop} (h : ∀ C : β → Own → Prop, (∀ b o, P b o → C b o) → Wg w k In t Rel own C) : Wg w k In t Rel own P := h P fun _ _ h => h
theorem post_eq {α : Type} {P : α → Own → Prop} {x : α} {y : Own} (h : P x y) : ∀ v o, v = x ∧ o = y → P v o := fun _ _ ⟨e1, e2⟩ => e1 ▸ e2 ▸ h
theorem post_ex {α ι : Type} {P : α → Own → Prop} {f : ι → α} {g : ι → Own} (h : ∀ i, P (f i) (g i)) : ∀ v o, (∃ i, v = f i ∧ o = g i) → P v o := fun _ _ ⟨i, e1, e2⟩ => e1 ▸ e2 ▸ h i
theorem len1 {α : Type} {l : List α} (h : l.length = 1) : ∃ a, l = [a] := List.length_eq_one_iff.mp h
theorem len2 {α : Type} {l : List α} (h : l.length = 2) : ∃ a b, l = [a, b] := by
  cases l with
  | nil => cases h
  | cons a r => exact (len1 (Nat.succ.inj h)).elim fun b e => ⟨a, b, congrArg (a :: ·) e⟩
theorem len3 {α : Type} {l : List α} (h : l.length = 3) : ∃ a b c, l = [a, b, c] := by
  cases l with
  | nil => cases h
  | cons a r => exact (len2 (Nat.succ.inj h)).elim fun b ⟨c, e⟩ => ⟨a, b, c, congrArg (a :: ·) e⟩
theorem bind1 {fd : FuncData} {names : List Str} (h : ∀ a, bindArgs fd ⟨[a], []⟩ = pure (names.zip [a])) : ∀ cvs : List Value, cvs.length = 1 → bindArgs fd ⟨cvs, []⟩ = pure (names.zip cvs) :=
  fun _ e => (len1 e).elim fun a e => e ▸ h a
theorem bind2 {fd : FuncData} {names : List Str} (h : ∀ a b, bindArgs fd ⟨[a, b], []⟩ = pure (names.zip [a, b])) : ∀ cvs : List Value, cvs.length = 2 → bindArgs fd ⟨cvs, []⟩ = pure (names.zip cvs) :=
  fun _ e => (len2 e).elim fun a ⟨b, e⟩ => e ▸ h a b
theorem bind3 {fd : FuncData} {names : List Str} (h : ∀ a b c, bindArgs fd ⟨[a, b, c], []⟩ = pure (names.zip [a, b, c])) : ∀ cvs : List Value, cvs.length = 3 → bindArgs fd ⟨cvs, []⟩ = pure (names.zip cvs) :=
  fun _ e => (len3 e).elim fun a ⟨b, c, e⟩ => e ▸ h a b c
end Mine

-- B2
set_option maxRecDepth 100000
set_option maxHeartbeats 1000000
namespace Mine
open PySem PySem.W PySem.Calls PyProof.Rows

theorem if_tt {p q : Prop} (h : p) : if true = true then p else q := h
theorem if_ff {p q : Prop} (h : q) : if false = true then p else q := h
theorem if_ntt {p q : Prop} (h : q) : if (!true) = true then p else q := h
theorem if_nff {p q : Prop} (h : p) : if (!false) = true then p else q := h
theorem if_T {b : Bool} {p q : Prop} (e : b = true) (h : p) : if b = true then p else q := by rw [if_pos e]; exact h
theorem if_F {b : Bool} {p q : Prop} (e : b = false) (h : q) : if b = true then p else q := by rw [e]; exact h
noncomputable def merge : List Bool → Own → Own → Own
  | true :: m, p :: o, mo => p :: merge m o mo
  | false :: m, o, q :: mo => q :: merge m o mo
  | _, o, mo => match mo with
    | [] => o
    | _ => o ++ mo
noncomputable def restOf : List Bool → Own → Own
  | true :: m, _ :: o => restOf m o
  | false :: m, p :: o => p :: restOf m o
  | _, o => o
theorem merge_perm : ∀ (m : List Bool) (o mo : Own), (merge m o mo).Perm (o ++ mo)
  | true :: m, p :: o, mo => by simpa [merge] using (merge_perm m o mo)
  | false :: m, o, q :: mo => by
    simp only [merge]
    exact ((merge_perm m o mo).cons q).trans List.perm_middle.symm
  | [], o, [] => by simp [merge]
  | [], o, q :: mo => by simp [merge]
  | true :: m, [], [] => by simp [merge]
  | true :: m, [], q :: mo => by simp [merge]
  | false :: m, o, [] => by simp [merge]
section
variable {w : World} {k : Nat} {env : Env} {own : Own}
theorem Wg.permPost {γ α β : Type} {In : Heap → γ → Prop} {t : γ → Sem α} {Rel : Heap → β → α → Prop} {P : β → Own → Prop} (h : Wg w k In t Rel own (fun b o => ∃ o', o'.Perm o ∧ P b o')) : Wg w k In t Rel own P :=
  fun A g s rest Q E c ok S i K => h A g s rest Q E c ok S i fun a h' tk g' b own' ⟨o', hs, hP⟩ S' => K a h' tk g' b o' hP (S'.perm (List.Perm.append_right rest hs.symm))
theorem Wg.use {γ α β : Type} {k' : Nat} {own₀ : Own} {In : Heap → γ → Prop} {t : γ → Sem α} {Rel : Heap → β → α → Prop} {P₀ P : β → Own → Prop} (mask : List Bool) (c : Wg w k' In t Rel own₀ P₀)
    (fin : ∀ b o, P₀ b o → P b (merge mask o (restOf mask own))) (he : merge mask own₀ (restOf mask own) = own := by rfl) (e : k' ≤ k := by decide) : Wg w k In t Rel own P := by
  have hp := merge_perm mask own₀ (restOf mask own)
  rw [he] at hp
  refine Wg.permPost (Wg.perm (Wg.mono (Wg.frame (restOf mask own) (Wg.le c e)) ?_) hp)
  rintro b o ⟨o', rfl, h⟩
  exact ⟨_, merge_perm mask o' _, fin b o' h⟩
theorem we_globalF {x : Str} {pos} {a : Addr} {P : V → Own → Prop} (h : P (V.ref a) own) (hv : nsIn (Mine.K w.params) mainGlobals x = some (some (.ref a))) (hG : env.globals = mainGlobals := by rfl)
    (hk : env.scope.kind = .function := by rfl) (hl : env.kindOf x = some .globalImplicit := by rfl) (hd : (x == ("__debug__" : Str)) = false := by decide) : WE w k env (.Name x pos) own P :=
  we_global h hv (fun _ => VR.raw_iff.mpr rfl) hG hk hl hd
theorem raw_post {x : Value} {Q : Value → Prop} (h : Q x) : ∃ f, V.raw x = .raw f ∧ Q f := ⟨x, rfl, h⟩
end

-- continuations by name: nothing is copied under a binder
section
variable {w : World} {k : Nat} {env : Env} {own o : Own} {u v : V}
noncomputable def cNext (P : FV → Own → Prop) : Unit → Own → Prop := fun _ o => P .next o
noncomputable def cNx (P : FV → Own → Prop) : V → Own → Prop := fun _ o => P .next o
noncomputable def cRet (P : FV → Own → Prop) : V → Own → Prop := fun v o => P (.ret v) o
noncomputable def c2 (w : World) (k : Nat) (t : Value → Value → Sem Value) (v : V) (P : V → Own → Prop) : V → Own → Prop := fun u o => W2 w k v u t (VR w) o P
noncomputable def cR (w : World) (k : Nat) (env : Env) (e : Expr) (t : Value → Value → Sem Value) (P : V → Own → Prop) : V → Own → Prop := fun v o => WE w k env e o (c2 w k t v P)
noncomputable def c1 (w : World) (k : Nat) (t : Value → Sem Value) (P : V → Own → Prop) : V → Own → Prop := fun v o => W1 w k v t (VR w) o P
noncomputable def cBool (P : Bool → Own → Prop) : V → Own → Prop := fun v o => ∃ b, v = .bool b ∧ P b o
noncomputable def cNot (P : Bool → Own → Prop) : Bool → Own → Prop := fun b o => P (!b) o
noncomputable def cAnd (w : World) (k : Nat) (env : Env) (r : List Expr) (pos : Pos) (P : Bool → Own → Prop) : Bool → Own → Prop := fun b o => if b then WB w k env (.BoolOp .And r pos) o P else P false o
noncomputable def cOr (w : World) (k : Nat) (env : Env) (r : List Expr) (pos : Pos) (P : Bool → Own → Prop) : Bool → Own → Prop := fun b o => if b then P true o else WB w k env (.BoolOp .Or r pos) o P
noncomputable def cIf (w : World) (k : Nat) (env : Env) (b e : List Stmt) (P : FV → Own → Prop) : Bool → Own → Prop := fun c o => if c then WSs w k env b o P else WSs w k env e o P
noncomputable def cSt (w : World) (k : Nat) (env : Env) (x : Str) (P : FV → Own → Prop) : V → Own → Prop := fun v o => W1 w k v (fun c => storeName env x c) UR o (cNext P)
noncomputable def cWA (w : World) (k : Nat) (env : Env) (t : Expr) (P : FV → Own → Prop) : V → Own → Prop := fun v o => WA w k env t v o (cNext P)
noncomputable def cAs (w : World) (k : Nat) (env : Env) (ts : List Expr) (vs : List V) (P : Unit → Own → Prop) : Unit → Own → Prop := fun _ o => WAs w k env ts vs o P
noncomputable def cS3 (w : World) (k : Nat) (v u : V) (P : FV → Own → Prop) : V → Own → Prop := fun z o => W3 w k u z v setItem UR o (cNext P)
noncomputable def cS2 (w : World) (k : Nat) (env : Env) (i : Expr) (v : V) (P : FV → Own → Prop) : V → Own → Prop := fun u o => WE w k env i o (cS3 w k v u P)
noncomputable def cS1 (w : World) (k : Nat) (env : Env) (e i : Expr) (P : FV → Own → Prop) : V → Own → Prop := fun v o => WE w k env e o (cS2 w k env i v P)
noncomputable def cCons (v : V) (P : List V → Own → Prop) : List V → Own → Prop := fun vs o => P (v :: vs) o
noncomputable def cEs (w : World) (k : Nat) (env : Env) (pos : Pos) (r : List Expr) (P : List V → Own → Prop) : V → Own → Prop := fun v o => WEs w k env pos r o (cCons v P)
noncomputable def cTup (P : V → Own → Prop) : List V → Own → Prop := fun vs o => vs.length < 16777216 ∧ P (.tup vs) o
noncomputable def cLst (P : V → Own → Prop) : List V → Own → Prop := fun vs o => vs.length < 16777216 ∧ ∀ a, P (.ref a) (o ++ [(a, .list vs)])
noncomputable def cCall (w : World) (k : Nat) (env : Env) (pos : Pos) (args : List Expr) (P : V → Own → Prop) : V → Own → Prop := fun v o => ∃ f, v = .raw f ∧ WCW w k env pos f [] args o P
noncomputable def cWC (w : World) (k : Nat) (f : Value) (P : V → Own → Prop) : List V → Own → Prop := fun vs o => WC w k f vs o P
noncomputable def cAp2 (a : Addr) (P : V → Own → Prop) : V → Own → Prop := fun u o => ∃ vs own', At a (.list vs) (.list (vs ++ [u])) o own' ∧ vs.length < 16777216 ∧ P .non own'
noncomputable def cAp (w : World) (k : Nat) (env : Env) (e : Expr) (P : V → Own → Prop) : V → Own → Prop := fun v o => ∃ a vs, v = .ref a ∧ (a, O.list vs) ∈ o ∧ WE w k env e o (cAp2 a P)

theorem cNext_i {P : FV → Own → Prop} {x : Unit} (h : P .next o) : cNext P x o := h
theorem cNx_i {P : FV → Own → Prop} (h : P .next o) : cNx P v o := h
theorem cRet_i {P : FV → Own → Prop} (h : P (.ret v) o) : cRet P v o := h
theorem c2_i {t : Value → Value → Sem Value} {P : V → Own → Prop} (h : W2 w k v u t (VR w) o P) : c2 w k t v P u o := h
theorem cR_i {e : Expr} {t : Value → Value → Sem Value} {P : V → Own → Prop} (h : WE w k env e o (c2 w k t v P)) : cR w k env e t P v o := h
theorem c1_i {t : Value → Sem Value} {P : V → Own → Prop} (h : W1 w k v t (VR w) o P) : c1 w k t P v o := h
theorem cBool_i {b : Bool} {P : Bool → Own → Prop} (h : P b o) : cBool P (.bool b) o := ⟨b, rfl, h⟩
theorem cNot_i {b : Bool} {P : Bool → Own → Prop} (h : P (!b) o) : cNot P b o := h
theorem cIf_t {b e : List Stmt} {P : FV → Own → Prop} (h : WSs w k env b o P) : cIf w k env b e P true o := if_tt h
theorem cIf_f {b e : List Stmt} {P : FV → Own → Prop} (h : WSs w k env e o P) : cIf w k env b e P false o := if_ff h
theorem cIf_nt {b e : List Stmt} {P : FV → Own → Prop} (h : WSs w k env e o P) : cIf w k env b e P (!true) o := if_ntt h
theorem cIf_nf {b e : List Stmt} {P : FV → Own → Prop} (h : WSs w k env b o P) : cIf w k env b e P (!false) o := if_nff h
theorem cSt_store {x : Str} {L : Addr} {ks : List (Str × V)} {P : FV → Own → Prop} (h : P .next ((L, .frame (setK x v ks)) :: own)) (hL : env.locals = L) (hk : env.scope.kind = .function) (hl : env.kindOf x = some .local) : cSt w k env x P v ((L, .frame ks) :: own) := w1_store (P := cNext P) h hL hk hl
theorem cWA_i {t : Expr} {P : FV → Own → Prop} (h : WA w k env t v o (cNext P)) : cWA w k env t P v o := h
theorem cAs_i {ts : List Expr} {vs : List V} {P : Unit → Own → Prop} {x : Unit} (h : WAs w k env ts vs o P) : cAs w k env ts vs P x o := h
theorem cS3_i {z : V} {P : FV → Own → Prop} (h : W3 w k u z v setItem UR o (cNext P)) : cS3 w k v u P z o := h
theorem cS2_i {i : Expr} {P : FV → Own → Prop} (h : WE w k env i o (cS3 w k v u P)) : cS2 w k env i v P u o := h
theorem cS1_i {e i : Expr} {P : FV → Own → Prop} (h : WE w k env e o (cS2 w k env i v P)) : cS1 w k env e i P v o := h
theorem cCons_i {vs : List V} {P : List V → Own → Prop} (h : P (v :: vs) o) : cCons v P vs o := h
theorem cEs_i {pos : Pos} {r : List Expr} {P : List V → Own → Prop} (h : WEs w k env pos r o (cCons v P)) : cEs w k env pos r P v o := h
theorem cTup_i {vs : List V} {P : V → Own → Prop} (hl : vs.length < 16777216) (h : P (.tup vs) o) : cTup P vs o := ⟨hl, h⟩
theorem cLst_i {vs : List V} {P : V → Own → Prop} (hl : vs.length < 16777216) (h : ∀ a, P (.ref a) (o ++ [(a, .list vs)])) : cLst P vs o := ⟨hl, h⟩
theorem cCall_i {pos : Pos} {args : List Expr} {f : Value} {P : V → Own → Prop} (h : WCW w k env pos f [] args o P) : cCall w k env pos args P (.raw f) o := ⟨f, rfl, h⟩
theorem cWC_i {f : Value} {vs : List V} {P : V → Own → Prop} (h : WC w k f vs o P) : cWC w k f P vs o := h

theorem xe_BinOp {l r : Expr} {op pos} {P : V → Own → Prop} (h : WE w k env l own (cR w k env r (binaryOp op) P)) : WE w k env (.BinOp l op r pos) own P := we_BinOp h
theorem xe_Sub {value slice pos} {P : V → Own → Prop} (h : WE w k env value own (cR w k env slice (subscriptTail value slice) P)) : WE w k env (.Subscript value slice pos) own P := we_Sub h
theorem xe_Unary {x : Expr} {op pos} {P : V → Own → Prop} (h : WE w k env x own (c1 w k (unaryOp op) P)) : WE w k env (.UnaryOp op x pos) own P := we_Unary h
theorem xe_Compare {l r : Expr} {op pos} {P : V → Own → Prop} (h : WE w k env l own (cR w k env r (compareOp op) P)) (hm : behindInMarks op r = false) : WE w k env (.Compare l [op] [r] pos) own P := we_Compare h hm
theorem xb_Compare {l r : Expr} {op pos} {P : Bool → Own → Prop} (h : WE w k env l own (cR w k env r (compareOp op) (cBool P))) (hm : behindInMarks op r = false) : WB w k env (.Compare l [op] [r] pos) own P := wb_Compare h hm
theorem xb_Not {x : Expr} {pos} {P : Bool → Own → Prop} (h : WB w k env x own (cNot P)) : WB w k env (.UnaryOp .Not x pos) own P := wb_Not h
theorem xb_and {x : Expr} {r : List Expr} {pos} {P : Bool → Own → Prop} (h : WB w k env x own (cAnd w k env r pos P)) : WB w k env (.BoolOp .And (x :: r) pos) own P := wb_and h
theorem xb_or {x : Expr} {r : List Expr} {pos} {P : Bool → Own → Prop} (h : WB w k env x own (cOr w k env r pos P)) : WB w k env (.BoolOp .Or (x :: r) pos) own P := wb_or h
theorem xs_If {t b e pos} {P : FV → Own → Prop} (h : WB w k env t own (cIf w k env b e P)) : WS w k env (.If t b e pos) own P := ws_If h
theorem xs_Assign_Name {x p value pos} {P : FV → Own → Prop} (h : WE w k env value own (cSt w k env x P)) (hs : swapsWith value (some (.Name x p)) pos.line env = pure false) : WS w k env (.Assign [.Name x p] value pos) own P := ws_Assign_Name h hs
theorem xs_Assign_Tuple {elts n tp value pos} {P : FV → Own → Prop} (h : WE w k env value own (cWA w k env (.Tuple elts n tp) P)) (hs : swapsWithSole [.Tuple elts n tp] value pos.line env = pure false) (hw : swappedStores [.Tuple elts n tp] value env = pure none) : WS w k env (.Assign [.Tuple elts n tp] value pos) own P := ws_Assign_Tuple h hs hw
theorem xs_Assign_Sub {e i p value pos} {P : FV → Own → Prop} (h : WE w k env value own (cS1 w k env e i P)) (hs : swapsWith value (some (.Subscript e i p)) pos.line env = pure false) : WS w k env (.Assign [.Subscript e i p] value pos) own P := ws_Assign_Sub h hs
theorem xs_AugAssign_Name {x p op value pos} {P : FV → Own → Prop} (h : Wg (γ := Unit) w k (fun _ _ => True) (fun _ => loadName env x) (VR w) own (cR w k env value (inplaceOp op) (cSt w k env x P))) : WS w k env (.AugAssign (.Name x p) op value pos) own P := ws_AugAssign_Name h
theorem xs_Return {e pos} {P : FV → Own → Prop} (h : WE w k env e own (cRet P)) : WS w k env (.Return (some e) pos) own P := ws_Return h
theorem xs_Expr {e pos} {P : FV → Own → Prop} (h : WE w k env e own (cNx P)) (hi : interactive env = false) (hs : swapsWith e none pos.line env = pure false) : WS w k env (.Expr e pos) own P := ws_Expr h hi hs
theorem xas_cons {t : Expr} {ts : List Expr} {vs : List V} {P : Unit → Own → Prop} (h : WA w k env t v own (cAs w k env ts vs P)) (he : assignEach (t :: ts) env = (false, assign t env) :: assignEach ts env) : WAs w k env (t :: ts) (v :: vs) own P := was_cons h he
theorem xes_cons {pos} {e : Expr} {r : List Expr} {P : List V → Own → Prop} (h : WE w k env e own (cEs w k env pos r P)) (he : starEach (e :: r) env = (false, eval e env) :: starEach r env) : WEs w k env pos (e :: r) own P := wes_cons h he
theorem xe_Tuple {elts n pos} {P : V → Own → Prop} (h : WEs w k env pos elts own (cTup P)) : WE w k env (.Tuple elts n pos) own P := we_Tuple h
theorem xe_List {elts pos} {P : V → Own → Prop} (h : WEs w k env pos elts own (cLst P)) : WE w k env (.List elts pos) own P := we_List h
theorem xe_Call {func args pos} {P : V → Own → Prop} (h : WE w k env func own (cCall w k env pos args P)) (he : eval (.Call func args [] pos) env = (do callWith pos (← eval func env) [] (backTo pos (starEach args env)) (backToKw pos (keywordEach [] env)))) : WE w k env (.Call func args [] pos) own P := we_Call h he
theorem xcw_K {f : Value} {e : Expr} {r : List Expr} {pos} {P : V → Own → Prop} (hk : keepIn (Mine.K w.params) f = true) (h : WEs w k env pos (e :: r) own (cWC w k f P)) (he : starEach (e :: r) env = (false, eval e env) :: starEach r env) (hplain : (backTo pos (starEach r env)).any (·.1) = false) : WCW w k env pos f [] (e :: r) own P := wcw_K hk h he hplain
theorem xcw_builtin {id : String} {e : Expr} {r : List Expr} {pos} {P : V → Own → Prop} (h : WEs w k env pos (e :: r) own (cWC w k (.builtin id) P)) (he : starEach (e :: r) env = (false, eval e env) :: starEach r env) (hplain : (backTo pos (starEach r env)).any (·.1) = false) : WCW w k env pos (.builtin id) [] (e :: r) own P := wcw_builtin h he hplain
theorem xcw_type {T : String} {e : Expr} {r : List Expr} {pos} {P : V → Own → Prop} (h : WEs w k env pos (e :: r) own (cWC w k (.type T) P)) (he : starEach (e :: r) env = (false, eval e env) :: starEach r env) (hplain : (backTo pos (starEach r env)).any (·.1) = false) : WCW w k env pos (.type T) [] (e :: r) own P := wcw_type h he hplain
theorem xe_append {l e apos pos} {P : V → Own → Prop} (h : WE w k env l own (cAp w k env e P))
    (hbase : attributeBase l "append" env (eval l env) = eval l env := by rfl)
    (hfew : ((backTo pos (starEach [e] env)).all (fun x => !x.1) && (backToKw pos (keywordEach [] env)).all (fun x => x.1.isSome) && decide (([e] : List Expr).length + ([] : List Keyword).length + (if ([] : List Keyword).isEmpty then 0 else 1) < 30)) = true := by rfl)
    (hline : (apos.endLine == pos.line) = true := by rfl) (htrees : backTo pos (starEach [e] env) = [(false, eval e env)] := by rfl) : WE w k env (.Call (.Attribute l "append" apos) [e] [] pos) own P := we_append h hbase hfew hline htrees
end
end Mine

-- B1
set_option maxRecDepth 100000
set_option maxHeartbeats 1000000
namespace Mine
open PySem PySem.W PySem.Calls PyProof.Rows
local macro_rules | `(tactic| walk_at "sl") => `(tactic| repeat' (first | exact List.Sublist.slnil | exact List.Sublist.refl _ | with_reducible refine List.Sublist.cons_cons _ ?_ | with_reducible refine List.Sublist.cons _ ?_))
local macro_rules | `(tactic| walk_at "lk") => `(tactic| first | assumption | exact lk_hit | (refine' lk_miss ?hk ?_; (case hk => decide); walk_at "lk") | exact rfl)
local macro_rules | `(tactic| walk_at "at") => do
  let mut t ← `(At.head)
  let mut r := #[← `(Lean.Parser.Tactic.tacticSeq| exact $t)]
  for _ in [0:14] do
    t ← `(At.tail $t)
    r := r.push (← `(Lean.Parser.Tactic.tacticSeq| exact $t))
  `(tactic| first $[| $r]*)
local macro_rules | `(tactic| walk_at "mem") => `(tactic| first | exact List.Mem.head _ | (refine List.Mem.tail _ ?_; walk_at "mem") | assumption)
local macro_rules | `(tactic| walk_at "m") => do
  let r0 ← #[``cR_i, ``c2_i, ``cBool_i, ``cNext_i, ``cEs_i, ``cCons_i, ``cCall_i, ``cWC_i, ``cRet_i, ``cNx_i, ``c1_i, ``cNot_i, ``cWA_i, ``cAs_i, ``cS1_i, ``cS2_i, ``cS3_i, ``cIf_t, ``cIf_f, ``cIf_nt, ``cIf_nf, ``wss_cons, ``wss_nil, ``xs_If, ``xs_Return, ``ws_Return_none, ``ws_Break, ``ws_Continue, ``we_int, ``we_none, ``we_bool, ``xe_BinOp, ``xe_Unary, ``xe_Sub, ``xe_Tuple, ``wes_nil, ``w2_add, ``w2_sub, ``w2_lt, ``w2_le, ``w2_gt, ``w2_ge, ``w2_eq, ``w2_ne, ``w1_neg, ``w1_inv, ``wa_Name, ``was_nil, ``seqP_next, ``seqP_cont, ``seqP_brk, ``seqP_ret, ``loopP_next, ``loopP_cont, ``loopP_brk, ``loopP_ret, ``exitP_next, ``exitP_cont, ``exitP_brk, ``exitP_ret, ``bool_post, ``raw_post, ``xb_Not, ``xb_and, ``wb_and_nil, ``xb_or, ``wb_or_nil, ``xs_AugAssign_Name, ``we_IfExp, ``xe_List, ``we_Dict0, ``if_tt, ``if_ff, ``if_ntt, ``if_nff].mapM fun n => `(Lean.Parser.Tactic.tacticSeq| refine $(Lean.mkIdent n) ?_)
  let r1 ← #[``xs_Assign_Name, ``xs_Assign_Sub, ``xes_cons, ``xas_cons, ``xe_Call].mapM fun n => `(Lean.Parser.Tactic.tacticSeq| refine $(Lean.mkIdent n) ?_ ?hs)
  let r2 ← #[``xs_Assign_Tuple, ``xs_Expr, ``wa_Tuple, ``xcw_builtin, ``xcw_type].mapM fun n => `(Lean.Parser.Tactic.tacticSeq| refine $(Lean.mkIdent n) ?_ ?hs ?hw)
  `(tactic| first
  | ((with_reducible refine we_sliceFrom ?_ ?hn ?ht); (case hn => decide); (case ht => (intro _ _; rfl)))
  | (with_reducible first $[| $r0]*)
  | ((with_reducible first $[| $r1]*); (case hs => exact rfl))
  | ((with_reducible first $[| $r2]*); (case hs => exact rfl); (case hw => exact rfl))
  | ((with_reducible first | refine xe_Compare ?_ ?hm | refine xb_Compare ?_ ?hm); (case hm => with_unfolding_all rfl))
  | ((with_reducible refine' we_local ?_ ?hv ?hL ?hk ?hl ?hd); (case hL | hk | hl => exact rfl); (case hd => decide); (case hv => walk_at "lk"))
  | ((with_reducible first | refine w1_store ?_ ?hL ?hk ?hl | refine cSt_store ?_ ?hL ?hk ?hl); (case hL | hk | hl => exact rfl))
  | ((with_reducible refine' we_globalF ?_ ?hv ?hG ?hk ?hl ?hd); (case hG | hk | hl | hv => exact rfl); (case hd => decide))
  | ((with_reducible refine' we_builtin (v := Value.builtin _) ?_ ?hv ?hb ?hn ?hG ?hB ?hk ?hl ?hd); (case hG | hB | hk | hl | hv | hb => exact rfl); (case hd | hn => decide))
  | ((with_reducible refine' we_builtin (v := Value.type _) ?_ ?hv ?hb ?hn ?hG ?hB ?hk ?hl ?hd); (case hG | hB | hk | hl | hv | hb => exact rfl); (case hd | hn => decide))
  | ((with_reducible refine xcw_K ?hk ?_ ?he ?hp); (case hk | he | hp => exact rfl))
  | ((with_reducible refine' we_free ?_ ?hc ?hm ?hk ?hl ?hn ?hd); (case hk | hl | hc => exact rfl); (case hn | hd => decide); (case hm => walk_at "mem"))
  | ((with_reducible refine' we_cell ?_ ?hc ?hm ?hk ?hl ?hd); (case hk | hl | hc => exact rfl); (case hd => decide); (case hm => walk_at "mem"))
  | fail "m")
local macro_rules | `(tactic| walk_at "n") => `(tactic| ((try (dsimp only [List.cons_append, List.nil_append, List.append, merge, restOf])); repeat' walk_at "m"))
local macro_rules | `(tactic| walk_at "i") => `(tactic| ((try (dsimp only [List.cons_append, List.nil_append, List.append, merge, restOf])); repeat' ((fail_if_success (with_reducible refine xs_If ?_)); walk_at "m")))
section
noncomputable abbrev tupV (t : List Int) : V := .tup (t.map V.int)
noncomputable def heapV (xs : List (List Int)) : List V := xs.map tupV
theorem heapV_get {xs : List (List Int)} {i : Nat} {t : List Int} (h : xs[i]? = some t) : (heapV xs)[i]? = some (tupV t) := by simp [heapV, h]
theorem heapV_at {xs : List (List Int)} {i : Int} {n : Nat} {t : List Int} (h : xs[n]? = some t) (e : i = n) : (heapV xs)[i.toNat]? = some (tupV t) := by subst e; exact heapV_get (by simpa using h)
theorem heapV_set (xs : List (List Int)) (i : Nat) (t : List Int) : (heapV xs).set i (tupV t) = heapV (xs.set i t) := by simp [heapV, List.map_set]
theorem heapV_length (xs : List (List Int)) : (heapV xs).length = xs.length := by simp [heapV]

noncomputable def sdLoop (ni : List Int) (sp : Nat) : Nat → Nat → List (List Int) → List (List Int) × Nat
  | 0, pos, xs => (xs, pos)
  | f + 1, pos, xs =>
    if pos ≤ sp then (xs, pos) else
    match xs[(pos - 1) / 2]? with
    | some p => if ltL ni p then sdLoop ni sp f ((pos - 1) / 2) (xs.set pos p) else (xs, pos)
    | none => (xs, pos)
theorem sdLoop_fuel (ni : List Int) (sp : Nat) : ∀ (f g pos : Nat) (xs : List (List Int)), pos ≤ f → pos ≤ g → sdLoop ni sp f pos xs = sdLoop ni sp g pos xs
  | 0, 0, _, _, _, _ => rfl
  | 0, g + 1, pos, xs, h, _ => by
    have : pos = 0 := by omega
    subst this
    simp [sdLoop]
  | f + 1, 0, pos, xs, _, h => by
    have : pos = 0 := by omega
    subst this
    simp [sdLoop]
  | f + 1, g + 1, pos, xs, h1, h2 => by
    simp only [sdLoop]
    split
    · rfl
    · split
      · split
        · exact sdLoop_fuel ni sp f g _ _ (by omega) (by omega)
        · rfl
      · rfl
theorem sdLoop_inv (ni : List Int) (sp : Nat) : ∀ (f pos : Nat) (xs : List (List Int)), pos < xs.length → (sdLoop ni sp f pos xs).1.length = xs.length ∧ (sdLoop ni sp f pos xs).2 < xs.length
  | 0, _, _, h => ⟨rfl, h⟩
  | f + 1, pos, xs, h => by
    simp only [sdLoop]
    split
    · exact ⟨rfl, h⟩
    · cases xs[(pos - 1) / 2]? with
      | none => exact ⟨rfl, h⟩
      | some p =>
        dsimp only
        split
        · have := sdLoop_inv ni sp f ((pos - 1) / 2) (xs.set pos p) (by simp; omega)
          simpa using this
        · exact ⟨rfl, h⟩
noncomputable def siftdown (xs : List (List Int)) (sp pos : Nat) : List (List Int) :=
  match xs[pos]? with
  | some ni => (sdLoop ni sp pos pos xs).1.set (sdLoop ni sp pos pos xs).2 ni
  | none => xs
theorem siftdown_length (xs : List (List Int)) (sp pos : Nat) : (siftdown xs sp pos).length = xs.length := by
  unfold siftdown
  split
  · rename_i ni h
    rw [List.length_set]
    exact (sdLoop_inv _ _ _ _ _ (List.getElem?_eq_some_iff.mp h).1).1
  · rfl

section
variable {w : World} {k : Nat} {own : Own}
theorem get_lt {α : Type} {xs : List α} {n : Nat} {t : α} (h : xs[n]? = some t) : n < xs.length := (List.getElem?_eq_some_iff.mp h).1
theorem w2_heap {a : Addr} {xs : List (List Int)} {n : Nat} {t : List Int} {value slice : Expr} {P : V → Own → Prop} (h : P (tupV t) own) (hm : (a, O.list (heapV xs)) ∈ own) (hx : xs[n]? = some t) (hb : xs.length < 1000000)
    (hs : ∀ o i, subscripted slice false o i = operate [o, i] (getItem o i) := by intro _ _; with_unfolding_all rfl) : W2 w k (.ref a) (.int n) (subscriptTail value slice) (VR w) own P :=
  w2_list h hm (Int.natCast_nonneg n) (heapV_get (by simpa using hx)) (by have := get_lt hx; omega) hs
theorem w3_heap {a : Addr} {xs : List (List Int)} {n : Nat} {t : List Int} {own' : Own} {P : Unit → Own → Prop} (h : P () own') (m : At a (.list (heapV xs)) (.list (heapV (xs.set n t))) own own') (hn : n < xs.length) (hb : xs.length < 1000000) : W3 w k (.ref a) (.int n) (tupV t) setItem UR own P :=
  w3_list h (by rw [Int.toNat_natCast, heapV_set]; exact m) (Int.natCast_nonneg n) (by rw [heapV_length]; exact hn) (by omega)
theorem w2_shr1 {i : Int} {j : Nat} {P : V → Own → Prop} (h : P (.int j) own) (e : i / 2 = j) : W2 w k (.int i) (.int 1) (binaryOp .RShift) (VR w) own P :=
  w2_rshift (by rw [Int.fdiv_eq_ediv_of_nonneg _ (by decide)]; exact (show i / 2 ^ (1 : Int).toNat = j from e) ▸ h) (by decide)
theorem wc_lenH {a : Addr} {xs : List (List Int)} {P : V → Own → Prop} (h : P (.int xs.length) own) (hm : (a, O.list (heapV xs)) ∈ own) (hb : xs.length < 1000000) : WC w k (.builtin "len") [.ref a] own P :=
  wc_len (by rw [heapV_length]; exact h) hm (by rw [heapV_length]; omega)
end
theorem sdLoop_stop {ni : List Int} {sp n : Nat} {xs : List (List Int)} (h : n ≤ sp) : sdLoop ni sp n n xs = (xs, n) := by
  cases n with
  | zero => rfl
  | succ m => rw [sdLoop, if_pos h]
theorem sdLoop_step {ni pa : List Int} {sp m : Nat} {xs : List (List Int)} (h : sp < m + 1) (hpa : xs[m / 2]? = some pa) : sdLoop ni sp (m + 1) (m + 1) xs = if ltL ni pa then sdLoop ni sp (m / 2) (m / 2) (xs.set (m + 1) pa) else (xs, m + 1) := by
  rw [sdLoop, if_neg (Nat.not_le.mpr h), show (m + 1 - 1) / 2 = m / 2 from rfl, hpa]
  dsimp only
  rw [sdLoop_fuel ni sp m (m / 2) _ _ (Nat.div_le_self _ _) (Nat.le_refl _)]

theorem wc_siftdown {w : World} {l : Addr} {xs : List (List Int)} {sp pos : Nat} (hp : pos < xs.length) (hlen : xs.length < 1000000) :
    WC w 20 (.ref 84) [.ref l, .int sp, .int pos] [(l, .list (heapV xs))] fun v o => v = .non ∧ o = [(l, .list (heapV (siftdown xs sp pos)))] := by
  obtain ⟨ni, hni⟩ : ∃ ni, xs[pos]? = some ni := ⟨_, List.getElem?_eq_getElem hp⟩
  have hin := sdLoop_inv ni sp pos pos xs hp
  have hsd : siftdown xs sp pos = (sdLoop ni sp pos pos xs).1.set (sdLoop ni sp pos pos xs).2 ni := by rw [siftdown, hni]
  rw [hsd]
  clear hsd
  generalize hr : sdLoop ni sp pos pos xs = r at hin ⊢
  refine wc_def (k := 18) (names := ["heap", "startpos", "pos"]) rfl rfl rfl (bind3 fun _ _ _ => rfl) rfl (by decide) (by decide) (fun L => Wg.abs fun C fin => ?_)
  repeat' walk_at "m"
  refine w2_heap ?_ (by walk_at "mem") hni hlen
  repeat' walk_at "m"
  refine ws_WhileR (fun n o => ∃ xs' ks, o = [(L, .frame ks), (l, .list (heapV xs'))] ∧ n < xs'.length ∧ xs'.length = xs.length ∧ sdLoop ni sp n n xs' = r ∧
    Lk ks "heap" (.ref l) ∧ Lk ks "startpos" (.int sp) ∧ Lk ks "pos" (.int n) ∧ Lk ks "newitem" (tupV ni))
    (fun o => ∃ ks, o = [(L, .frame ks), (l, .list (heapV r.1))] ∧ Lk ks "heap" (.ref l) ∧ Lk ks "pos" (.int r.2) ∧ Lk ks "newitem" (tupV ni)) ?_ pos ⟨xs, _, rfl, hp, rfl, hr, rfl, rfl, rfl, rfl⟩ ?_
  · intro n o hI
    refine Wg.abs fun D don => ?_
    obtain ⟨xs', ks, rfl, hp', hl', hinv, k1, k2, k3, k4⟩ := hI
    repeat' walk_at "m"
    refine don _ _ ?_
    by_cases hps : sp < n
    · refine if_T (decide_eq_true (Int.ofNat_lt.mpr hps)) ?_
      refine Wg.abs fun D2 don2 => ?_
      obtain ⟨m, rfl⟩ : ∃ m, n = m + 1 := ⟨n - 1, by omega⟩
      obtain ⟨pa, hpa⟩ : ∃ pa, xs'[m / 2]? = some pa := ⟨_, List.getElem?_eq_getElem (by omega)⟩
      rw [sdLoop_step hps hpa] at hinv
      repeat' walk_at "m"
      refine w2_shr1 (j := m / 2) ?_ (by omega)
      repeat' walk_at "m"
      refine w2_heap ?_ (by walk_at "mem") hpa (by omega)
      repeat' walk_at "m"
      refine w2_tuplt ?_
      repeat' walk_at "m"
      by_cases hlt : ltL ni pa = true
      · rw [if_pos hlt] at hinv
        refine if_T hlt ?_
        repeat' walk_at "m"
        refine' w3_heap ?_ ?m hp' (by omega)
        case m => walk_at "at"
        repeat' walk_at "m"
        exact don2 _ _ (loopP_cont ⟨m / 2, by omega, xs'.set (m + 1) pa, _, rfl, by simp; omega, by simpa using hl', hinv, by walk_at "lk", by walk_at "lk", by walk_at "lk", by walk_at "lk"⟩)
      · rw [if_neg hlt] at hinv
        subst hinv
        refine if_F (Bool.eq_false_iff.mpr hlt) ?_
        repeat' walk_at "m"
        exact don2 _ _ (loopP_brk (exitP_next ⟨_, rfl, by walk_at "lk", by walk_at "lk", by walk_at "lk"⟩))
    · rw [sdLoop_stop (Nat.not_lt.mp hps)] at hinv
      subst hinv
      exact if_F (decide_eq_false fun h => hps (Int.ofNat_lt.mp h)) ⟨_, rfl, k1, k3, k4⟩
  · rintro o ⟨ks, rfl, k1, k2, k3⟩
    repeat' walk_at "m"
    refine' w3_heap ?_ ?m (by rw [hin.1]; exact hin.2) (by rw [hin.1]; exact hlen)
    case m => walk_at "at"
    repeat' walk_at "m"
    exact fin _ _ ⟨_, _, rfl, rfl, rfl⟩

end

-- B3
set_option maxRecDepth 100000
set_option maxHeartbeats 1000000
section
noncomputable def suLoop : Nat → Nat → List (List Int) → List (List Int) × Nat
  | 0, pos, xs => (xs, pos)
  | f + 1, pos, xs =>
    if 2 * pos + 1 < xs.length then
      let c := if 2 * pos + 2 < xs.length && !(ltL (xs[2 * pos + 1]?.getD []) (xs[2 * pos + 2]?.getD [])) then 2 * pos + 2 else 2 * pos + 1
      suLoop f c (xs.set pos (xs[c]?.getD []))
    else (xs, pos)
theorem suLoop_inv : ∀ (f pos : Nat) (xs : List (List Int)), pos < xs.length → (suLoop f pos xs).1.length = xs.length ∧ (suLoop f pos xs).2 < xs.length
  | 0, _, _, h => ⟨rfl, h⟩
  | f + 1, pos, xs, h => by
    simp only [suLoop]
    by_cases q : 2 * pos + 1 < xs.length
    · rw [if_pos q]
      have hc : (if (decide (2 * pos + 2 < xs.length) && !(ltL (xs[2 * pos + 1]?.getD []) (xs[2 * pos + 2]?.getD []))) = true then 2 * pos + 2 else 2 * pos + 1) < xs.length := by
        split
        · rename_i h; simp only [Bool.and_eq_true, decide_eq_true_eq] at h; exact h.1
        · exact q
      revert hc
      generalize (if (decide (2 * pos + 2 < xs.length) && !(ltL (xs[2 * pos + 1]?.getD []) (xs[2 * pos + 2]?.getD []))) = true then 2 * pos + 2 else 2 * pos + 1) = c
      intro hc
      have := suLoop_inv f c (xs.set pos (xs[c]?.getD [])) (by simpa using hc)
      simpa using this
    · rw [if_neg q]; exact ⟨rfl, h⟩
noncomputable def siftup (xs : List (List Int)) (pos : Nat) : List (List Int) :=
  siftdown ((suLoop xs.length pos xs).1.set (suLoop xs.length pos xs).2 (xs[pos]?.getD [])) pos (suLoop xs.length pos xs).2
theorem siftup_length (xs : List (List Int)) (pos : Nat) (h : pos < xs.length) : (siftup xs pos).length = xs.length := by
  rw [siftup, siftdown_length, List.length_set]; exact (suLoop_inv _ _ _ h).1
theorem getD_some {xs : List (List Int)} {i : Nat} (h : i < xs.length) : xs[i]? = some (xs[i]?.getD []) := by
  rw [List.getElem?_eq_getElem h]; rfl

noncomputable abbrev gd (xs : List (List Int)) (i : Nat) : List Int := xs[i]?.getD []
noncomputable def suC (xs : List (List Int)) (p : Nat) : Bool := decide (2 * p + 2 < xs.length) && !(ltL (gd xs (2 * p + 1)) (gd xs (2 * p + 2)))
theorem suLoop_step {n p : Nat} {xs : List (List Int)} (h : 2 * p + 1 < xs.length) : suLoop (n + 1) p xs = suLoop n (if suC xs p then 2 * p + 2 else 2 * p + 1) (xs.set p (gd xs (if suC xs p then 2 * p + 2 else 2 * p + 1))) := by
  rw [suLoop, if_pos h]; rfl
theorem suLoop_stop {n p : Nat} {xs : List (List Int)} (h : ¬ 2 * p + 1 < xs.length) : suLoop (n + 1) p xs = (xs, p) := by
  rw [suLoop, if_neg h]
theorem suC_lt {xs : List (List Int)} {p : Nat} (h : 2 * p + 1 < xs.length) : (if suC xs p then 2 * p + 2 else 2 * p + 1) < xs.length := by
  split
  · rename_i q; unfold suC at q; simp only [Bool.and_eq_true, decide_eq_true_eq] at q; exact q.1
  · exact h
section
variable {w : World} {k : Nat} {env : Env} {own : Own}
theorem if_andB {e : Expr} {b1 : Bool} {P : Bool → Own → Prop} (b : Bool) (h1 : b1 = true → (∀ c, c = b → P c own) → WB w k env e own P) (h2 : b1 = false → b = false) (tail : P b own) : if b1 = true then WB w k env e own P else P false own := by
  cases b1 with
  | true => exact h1 rfl fun c e => e ▸ tail
  | false => exact if_F rfl (h2 rfl ▸ tail)
theorem if_and1 {b : Bool} {pos} {P : Bool → Own → Prop} (h : P b own) : if b = true then WB w k env (.BoolOp .And [] pos) own P else P false own := by
  cases b with
  | true => exact wb_and_nil h
  | false => exact h
end
theorem cast1 (p : Nat) : (2 * (p : Int) + 1) = ((2 * p + 1 : Nat) : Int) := by omega
theorem cast2 (p : Nat) : ((2 * p + 1 : Nat) : Int) + 1 = ((2 * p + 2 : Nat) : Int) := by omega
theorem lt_dec {a b : Nat} (h : a < b) : decide ((a : Int) < (b : Int)) = true := decide_eq_true (Int.ofNat_lt.mpr h)
theorem nlt_dec {a b : Nat} (h : ¬ a < b) : decide ((a : Int) < (b : Int)) = false := decide_eq_false fun q => h (Int.ofNat_lt.mp q)
theorem of_lt_dec {a b : Nat} {c : Bool} (h : decide ((a : Int) < (b : Int)) = c) : decide (a < b) = c := by rw [← h]; exact decide_eq_decide.mpr Int.ofNat_lt.symm
theorem w2_addN {w : World} {k : Nat} {own : Own} {a b : Nat} {P : V → Own → Prop} (h : P (.int ((a + b : Nat) : Int)) own) : W2 w k (.int (a : Int)) (.int (b : Int)) (binaryOp .Add) (VR w) own P :=
  w2_add (by rw [← Int.natCast_add]; exact h)
theorem w2_mulN {w : World} {k : Nat} {own : Own} {a b : Nat} {P : V → Own → Prop} (h : P (.int ((a * b : Nat) : Int)) own) (hm : a < 1000000) : W2 w k (.int (a : Int)) (.int (b : Int)) (binaryOp .Mult) (VR w) own P :=
  w2_mul (by rw [← Int.natCast_mul]; exact h) (by omega)

theorem wc_siftup {w : World} {l : Addr} {xs : List (List Int)} {pos : Nat} (hp : pos < xs.length) (hlen : xs.length < 1000000) :
    WC w 40 (.ref 91) [.ref l, .int pos] [(l, .list (heapV xs))] fun v o => v = .non ∧ o = [(l, .list (heapV (siftup xs pos)))] := by
  have hin := suLoop_inv xs.length pos xs hp
  rw [siftup]
  generalize hr : suLoop xs.length pos xs = r at hin ⊢
  have hni := getD_some hp
  generalize xs[pos]?.getD [] = ni at hni ⊢
  refine wc_def (k := 38) (names := ["heap", "pos"]) rfl rfl rfl (bind2 fun _ _ => rfl) rfl (by decide) (by decide) (fun L => Wg.abs fun C fin => ?_)
  repeat' walk_at "m"
  refine wc_lenH ?_ (by walk_at "mem") hlen
  repeat' walk_at "m"
  refine w2_heap ?_ (by walk_at "mem") hni hlen
  repeat' walk_at "m"
  refine w2_mul ?_ (by decide)
  repeat' walk_at "m"
  rw [cast1]
  refine ws_WhileR (fun n o => ∃ p xs' ks, o = [(L, .frame ks), (l, .list (heapV xs'))] ∧ p < xs'.length ∧ xs'.length = xs.length ∧ suLoop n p xs' = r ∧ xs'.length ≤ n + p ∧
    Lk ks "heap" (.ref l) ∧ Lk ks "startpos" (.int pos) ∧ Lk ks "endpos" (.int xs.length) ∧ Lk ks "pos" (.int p) ∧ Lk ks "childpos" (.int ((2 * p + 1 : Nat) : Int)) ∧ Lk ks "newitem" (tupV ni))
    (fun o => ∃ ks, o = [(L, .frame ks), (l, .list (heapV r.1))] ∧ Lk ks "heap" (.ref l) ∧ Lk ks "startpos" (.int pos) ∧ Lk ks "pos" (.int r.2) ∧ Lk ks "newitem" (tupV ni)) ?_ xs.length ⟨pos, xs, _, rfl, hp, rfl, hr, Nat.le_add_right _ _, by walk_at "lk", by walk_at "lk", by walk_at "lk", by walk_at "lk", by walk_at "lk", by walk_at "lk"⟩ ?_
  · intro n o hI
    refine Wg.abs fun D don => ?_
    obtain ⟨p, xs', ks, rfl, hp', hl', hinv, hn, k1, k2, k3, k4, k5, k6⟩ := hI
    rw [← hl'] at k3 hlen
    repeat' walk_at "m"
    refine don _ _ ?_
    obtain ⟨n, rfl⟩ : ∃ m, n = m + 1 := ⟨n - 1, by omega⟩
    by_cases hps : 2 * p + 1 < xs'.length
    · refine if_T (lt_dec hps) (Wg.abs fun D2 don2 => ?_)
      rw [suLoop_step hps] at hinv
      have hc := suC_lt hps
      clear don
      walk_at "i"
      refine Wg.abs fun Q q => ?_
      have tail : ∀ (b : Bool) ks, b = suC xs' p → Lk ks "heap" (.ref l) → Lk ks "startpos" (.int pos) → Lk ks "endpos" (.int xs'.length) → Lk ks "pos" (.int p) → Lk ks "childpos" (.int (((if b then 2 * p + 2 else 2 * p + 1 : Nat)) : Int)) → Lk ks "newitem" (tupV ni) → Q .next [(L, .frame ks), (l, .list (heapV xs'))] := by
        intro b ks hb k1 k2 k3 k4 k5 k6
        refine q _ _ ?_
        clear q
        rw [← hb] at hinv hc
        have hpc : p < if b = true then 2 * p + 2 else 2 * p + 1 := by split <;> omega
        generalize (if b = true then 2 * p + 2 else 2 * p + 1) = c at hinv hc k5 hpc
        repeat' walk_at "m"
        refine w2_heap ?_ (by walk_at "mem") (getD_some hc) hlen
        repeat' walk_at "m"
        refine' w3_heap ?_ ?m hp' hlen
        case m => walk_at "at"
        repeat' walk_at "m"
        refine w2_mul ?_ (by decide)
        repeat' walk_at "m"
        refine don2 _ _ (loopP_next ⟨n, Nat.lt_succ_self n, c, xs'.set p (gd xs' c), _, rfl, by rw [List.length_set]; exact hc, by rw [List.length_set]; exact hl', hinv, by rw [List.length_set]; omega, by walk_at "lk", by walk_at "lk", hl' ▸ by walk_at "lk", by walk_at "lk", by rw [← cast1]; walk_at "lk", by walk_at "lk"⟩)
      clear q
      repeat' walk_at "m"
      refine if_andB (suC xs' p) (fun h1 h2 => ?_) (fun h => ?_) ?_
      · refine Wg.abs fun D3 don3 => ?_
        replace h1 := of_decide_eq_true h1
        rw [cast2] at h1
        have hr := Int.ofNat_lt.mp h1
        repeat' walk_at "m"
        refine w2_heap ?_ (by walk_at "mem") (getD_some hps) hlen
        repeat' walk_at "m"
        rw [cast2]
        refine w2_heap ?_ (by walk_at "mem") (getD_some hr) hlen
        repeat' walk_at "m"
        refine w2_tuplt ?_
        repeat' walk_at "m"
        refine if_and1 (don3 _ _ (h2 _ ?_))
        rw [suC, decide_eq_true hr, Bool.true_and]
      · rw [cast2] at h
        rw [suC, of_lt_dec h, Bool.false_and]
      · cases hb : suC xs' p with
        | true =>
          refine if_T rfl ?_
          repeat' walk_at "m"
          exact tail true _ hb.symm (by walk_at "lk") (by walk_at "lk") (by walk_at "lk") (by walk_at "lk") (by rw [cast2]; walk_at "lk") (by walk_at "lk")
        | false =>
          refine if_F rfl ?_
          repeat' walk_at "m"
          exact tail false _ hb.symm (by walk_at "lk") (by walk_at "lk") (by walk_at "lk") (by walk_at "lk") (by walk_at "lk") (by walk_at "lk")
    · rw [suLoop_stop hps] at hinv
      subst hinv
      exact if_F (nlt_dec hps) ⟨_, rfl, k1, k2, k4, k6⟩
  · rintro o ⟨ks, rfl, k1, k2, k3, k4⟩
    repeat' walk_at "m"
    refine' w3_heap ?_ ?m (by rw [hin.1]; exact hin.2) (by rw [hin.1]; exact hlen)
    case m => walk_at "at"
    repeat' walk_at "m"
    refine Wg.use [false, true] (wc_siftdown (w := w) (l := l) (xs := r.1.set r.2 ni) (sp := pos) (pos := r.2) (by rw [List.length_set, hin.1]; exact hin.2) (by rw [List.length_set, hin.1]; exact hlen)) (post_eq ?_)
    walk_at "n"
    exact fin _ _ ⟨_, _, rfl, rfl, rfl⟩

end

-- B4
set_option maxRecDepth 100000
set_option maxHeartbeats 1000000
section
section
variable {prog : Program} {w : World} {A : Around} {E : Value → Shared → Prop} {s : Shared}
theorem call_range_reversed0 {l : Addr} {t u v : Tok} {Q : Value → Shared → Prop} (hl : IsRange s.heap l 0 0 1 t u v)
    (h : Q (.ref s.heap.objs.size) { s with heap := s.heap.push { cls := .type "range_iterator", data := .fields #[rawInt (-1), rawInt 0, rawInt (-1)] } }) : wpAny (model prog w) A (call (.builtin "range.__reversed__") [.ref l]) Q E s := by
  have hT : s.TypeIs (.ref l) "range" := ⟨_, hl, rfl⟩
  refine wpAny_call_entry F.slot_range_reversed hT F.entry_range_reversed ?_ (F.args_range_reversed_1 _)
  unfold Builtin.«range.__reversed__»
  refine wpAny_bind (wpAny_of_eq (a := Value.ref l) rfl ?_)
  unfold Builtin.Range.rangeFields
  refine wpAny_bind ?_
  obtain ⟨hp, g, d, tk, os⟩ := s
  wp_walk
  exact ⟨_, rfl, h⟩

theorem call_reversed_range0 {l : Addr} {t u v : Tok} {Q : Value → Shared → Prop} (hl : IsRange s.heap l 0 0 1 t u v)
    (h : Q (.ref s.heap.objs.size) { s with heap := s.heap.push { cls := .type "range_iterator", data := .fields #[rawInt (-1), rawInt 0, rawInt (-1)] } }) : wpAny (model prog w) A (call (.type "reversed") [.ref l]) Q E s := by
  have hT : s.TypeIs (.ref l) "range" := ⟨_, hl, rfl⟩
  refine callType_other (U := "range_iterator") (Q₁ := fun obj s₁ => obj = .ref s.heap.objs.size ∧ s₁ = { s with heap := s.heap.push { cls := .type "range_iterator", data := .fields #[rawInt (-1), rawInt 0, rawInt (-1)] } }) (by decide +kernel) F.create_reversed ⟨_, _, F.mro_reversed⟩ F.made_reversed (by rw [isSubtype_type]; kernel_rfl) (F.typeCall_reversed_1 _) ?_ ?_
  · refine codeAny_of_tree ?_
    show wpAny _ A.in1.in1 (do checkBuiltinCall "reversed.__new__" ⟨[.type "reversed", .ref l], []⟩; again (.builtin "reversed.__new__" ⟨[.type "reversed", .ref l], []⟩)) _ _ s
    refine wpAny_bind (wpAny_of_eq (F.newCall_reversed_1 _) (wpAny_pure ⟨plainId_quiet F.plain_reversed_new _, codeAny_builtin F.entry_reversed_new ?_⟩))
    rw [Around.under_plainId F.plain_reversed_new _]
    unfold Builtin.«reversed.__new__»
    refine wpAny_bind (wpAny_of_eq (newClass_reversed _) ?_)
    try dsimp only
    refine wpAny_bind (wpAny_of_eq (a := ()) (by first | rfl | kernel_rfl) ?_)
    refine wpAny_bind (wpAny_of_eq (a := ()) (by first | rfl | kernel_rfl) ?_)
    try dsimp only
    refine wpAny_bind (wpAny_specialOf hT F.slot_range_reversed.lookup ?_)
    try dsimp only
    refine wpAny_bind (wpAny_of_eq (F.slot_range_reversed.bind _) ?_)
    try dsimp only
    first
    | rw [if_neg (show ¬ ((Value.builtin "range.__reversed__" == Value.none) = true) from Bool.false_ne_true)]
    | (show wpAny _ _ (if (Value.builtin "range.__reversed__" == Value.none) = true then _ else _) _ _ _; rw [if_neg (show ¬ ((Value.builtin "range.__reversed__" == Value.none) = true) from Bool.false_ne_true)])
    refine wpAny_bind (wpAny_rule ?_)
    refine wpAny_bind (m := runValue (.call (.builtin "range.__reversed__") ⟨[.ref l], []⟩)) (show wpAny _ _ (call (.builtin "range.__reversed__") [.ref l]) _ _ _ from call_range_reversed0 hl ?_)
    first
    | exact wpAny_pure ⟨rfl, rfl⟩
    | exact wpAny_bind (wpAny_pure (wpAny_pure ⟨rfl, rfl⟩))
  · rintro obj s₁ ⟨rfl, rfl⟩
    exact ⟨⟨_, Heap.get?_push_size _ rfl, rfl⟩, h⟩
end

noncomputable def rngE : O := .such fun o => o = { cls := .type "range_iterator", dict := none, data := .fields #[rawInt (-1), rawInt 0, rawInt (-1)], slots := #[] }
section
variable {w : World} {k : Nat} {env : Env} {own : Own}
theorem wc_reversed_range0 {a : Addr} {P : V → Own → Prop} (hm : (a, rangeO 0 0) ∈ own) (h : ∀ r, P (.ref r) (own ++ [(r, rngE)])) : WC w k (.type "reversed") [.ref a] own P := by
  intro A g s rest Q E c ok S r K
  obtain ⟨x, r1, rfl, hx, hr⟩ := VRs.cons_iff.mp r
  rw [VRs.nil_iff] at hr; subst hr
  rw [VR.raw_iff] at hx; subst hx
  obtain ⟨_, _, o, ho, t, u, v, rfl⟩ := S.ent _ (mem_app hm)
  exact call_reversed_range0 ho (K _ _ s.toks g (.ref s.heap.objs.size) _ (h _) (S.pushE _ rfl) (StaysIn.refl _) (VR.raw_iff.mpr rfl))
theorem ws_For_none {target iter : Expr} {body : List Stmt} {pos} {P : FV → Own → Prop}
    (h : WE w k env iter own fun v o1 => ∃ r o, v = .ref r ∧ o1 = o ++ [(r, rngE)] ∧ P .next o)
    (hs : ∀ x, foldedSetIterable iter env x = pure x := by intro _; rfl) : WS w k env (.For target iter body [] pos) own P := by
  refine ws_For 0 (fun it i o => ∃ I o', it = .ref I ∧ o = o' ++ [(I, rngE)] ∧ P .next o') (h.mono fun v o ⟨r, o', e, e2, hI⟩ => ?_) (fun it i o hi hJ => ?_) hs
  · subst e e2
    intro A g s rest Q E c ok S rr K
    rw [VR.raw_iff] at rr; subst rr
    obtain ⟨oi, hoi, e⟩ := at_last S
    subst e
    exact wpAny_pyIter_rangeiter hoi (K _ _ s.toks g (.ref r) _ ⟨_, rfl, _, _, rfl, rfl, hI⟩ S (StaysIn.refl _) (VR.raw_iff.mpr rfl))
  · obtain ⟨I, o', rfl, rfl, hI⟩ := hJ
    intro A g s rest Q E E' ok S K
    obtain ⟨oi, hoi, e⟩ := at_last S
    subst e
    have hit : IsRangeIter s.heap I (-1) 0 (-1) := hoi
    refine wpAny_pyNext_range_end ok.1 hit (by omega) fun h' hb => ?_
    exact K none h' s.toks g none o' (wss_nil ⟨o', List.Sublist.refl _, hI⟩) (S.drops fun b o q e => hb b o (fun z => q (by simp [z])) e) (StaysIn.refl _) rfl
end
theorem ex_mem {l : Addr} {vs : List V} {o : Own} {B : Addr → Prop} (m : (l, O.list vs) ∈ o) (h : B l) : ∃ a vs, V.ref l = .ref a ∧ (a, O.list vs) ∈ o ∧ B a := ⟨l, vs, rfl, m, h⟩
theorem ex_at {a : Addr} {vs vs' : List V} {u : V} {o own' : Own} {Q : Own → Prop} (m : At a (.list vs) (.list vs') o own') (e : vs ++ [u] = vs') (hl : vs.length < 16777216) (h : Q own') : ∃ vs own', At a (.list vs) (.list (vs ++ [u])) o own' ∧ vs.length < 16777216 ∧ Q own' :=
  ⟨vs, own', e ▸ m, hl, h⟩
theorem exH_at {a : Addr} {xs : List (List Int)} (t : List Int) {o own' : Own} {Q : Own → Prop} (m : At a (.list (heapV xs)) (.list (heapV (xs ++ [t]))) o own') (hl : xs.length < 1000000) (h : Q own') : ∃ vs own', At a (.list vs) (.list (vs ++ [tupV t])) o own' ∧ vs.length < 16777216 ∧ Q own' :=
  ex_at m (by simp [heapV]) (by rw [heapV_length]; omega) h
theorem len_snoc {α : Type} (xs : List α) (t : α) : (xs ++ [t]).length = xs.length + 1 := by simp

theorem wc_heapify {w : World} {l : Addr} {t : List Int} :
    WC w 10 (.ref 77) [.ref l] [(l, .list (heapV [t]))] fun v o => v = .non ∧ o = [(l, .list (heapV [t]))] := by
  refine wc_def (k := 8) (names := ["x"]) rfl rfl rfl (bind1 fun _ => rfl) rfl (by decide) (by decide) (fun L => Wg.abs fun C fin => ?_)
  refine Wg.dropPost ?_
  repeat' walk_at "m"
  refine wc_lenH ?_ (by walk_at "mem") (Nat.lt_of_lt_of_le (show 1 < 2 from by decide) (by decide))
  repeat' walk_at "m"
  refine ws_For_none ?_
  repeat' walk_at "m"
  refine w2_floordiv ?_ (by decide) (by decide)
  repeat' walk_at "m"
  refine wc_range1 fun r => ?_
  repeat' walk_at "m"
  refine wc_reversed_range0 (by walk_at "mem") fun r2 => ?_
  refine ⟨r2, [(L, _), (l, _), (r, _)], rfl, rfl, ?_⟩
  repeat' walk_at "m"
  exact ⟨[(L, _), (l, _)], by walk_at "sl", fin _ _ ⟨_, _, rfl, rfl, rfl⟩⟩
theorem wc_heappush {w : World} {l : Addr} {xs : List (List Int)} {t : List Int} (hlen : xs.length < 900000) :
    WC w 40 (.ref 63) [.ref l, tupV t] [(l, .list (heapV xs))] fun v o => v = .non ∧ o = [(l, .list (heapV (siftdown (xs ++ [t]) 0 xs.length)))] := by
  refine wc_def (k := 38) (names := ["heap", "item"]) rfl rfl rfl (bind2 fun _ _ => rfl) rfl (by decide) (by decide) (fun L => Wg.abs fun C fin => ?_)
  have h1 : (xs ++ [t]).length < 1000000 := by rw [len_snoc]; omega
  have h2 : xs.length < (xs ++ [t]).length := by rw [len_snoc]; exact Nat.lt_succ_self _
  have h3 : (((xs ++ [t]).length : Nat) : Int) - 1 = ((xs.length : Nat) : Int) := by rw [len_snoc]; omega
  repeat' walk_at "m"
  refine xe_append ?_
  repeat' walk_at "m"
  refine ex_mem (by walk_at "mem") ?_
  repeat' walk_at "m"
  refine exH_at t (by walk_at "at") (by omega) ?_
  repeat' walk_at "m"
  refine wc_lenH ?_ (by walk_at "mem") h1
  repeat' walk_at "m"
  rw [h3]
  refine Wg.use [false, true] (wc_siftdown (w := w) (l := l) (xs := xs ++ [t]) (sp := 0) (pos := xs.length) h2 h1) (post_eq ?_)
  walk_at "n"
  exact fin _ _ ⟨_, _, rfl, rfl, rfl⟩
theorem wc_heapreplace {w : World} {l : Addr} {a : List Int} {xs : List (List Int)} {t : List Int} (hlen : xs.length < 900000) :
    WC w 60 (.ref 70) [.ref l, tupV t] [(l, .list (heapV (a :: xs)))] fun v o => v = tupV a ∧ o = [(l, .list (heapV (siftup (t :: xs) 0)))] := by
  refine wc_def (k := 58) (names := ["heap", "item"]) rfl rfl rfl (bind2 fun _ _ => rfl) rfl (by decide) (by decide) (fun L => Wg.abs fun C fin => ?_)
  have h1 : (a :: xs).length < 1000000 := by rw [List.length_cons]; omega
  repeat' walk_at "m"
  refine w2_heap (n := 0) (t := a) ?_ (by walk_at "mem") rfl h1
  repeat' walk_at "m"
  refine' w3_heap (n := 0) (xs := a :: xs) ?_ ?m (Nat.zero_lt_succ _) h1
  case m => walk_at "at"
  repeat' walk_at "m"
  refine Wg.use [false, true] (wc_siftup (w := w) (l := l) (xs := t :: xs) (pos := 0) (Nat.zero_lt_succ _) h1) (post_eq ?_)
  walk_at "n"
  exact fin _ _ ⟨_, _, rfl, rfl, rfl⟩

end

-- B5
set_option maxRecDepth 100000
set_option maxHeartbeats 1000000
section
noncomputable def digs (n : Nat) : Nat → Int → Nat → List Int
  | 0, _, _ => []
  | f + 1, x, m => if m ≤ 1 then [x] else digs n f (x % 2 ^ (m / 2 * n)) (m / 2) ++ digs n f (x / 2 ^ (m / 2 * n)) (m - m / 2)
noncomputable def val (n : Nat) : List Int → Int
  | [] => 0
  | d :: r => d + 2 ^ n * val n r
theorem dig_facts {m f : Nat} (h2 : m ≤ f + 1) (q : ¬ m ≤ 1) : 1 ≤ m / 2 ∧ m / 2 ≤ f ∧ 1 ≤ m - m / 2 ∧ m - m / 2 ≤ f ∧ m / 2 + (m - m / 2) = m :=
  have q := Nat.lt_of_not_le q
  have hl := Nat.div_lt_self (Nat.lt_of_succ_lt q) (by decide : 1 < 2)
  have h1 := Nat.div_pos q (by decide)
  ⟨h1, Nat.le_of_lt_succ (Nat.lt_of_lt_of_le hl h2), Nat.sub_pos_of_lt hl, Nat.le_trans (Nat.sub_le_sub_left h1 m) (Nat.sub_le_of_le_add h2), Nat.add_sub_cancel' (Nat.le_of_lt hl)⟩
theorem digs_eq {n f m : Nat} {x : Int} : digs n (f + 1) x m = (if m ≤ 1 then [x] else digs n f (x % 2 ^ (m / 2 * n)) (m / 2) ++ digs n f (x / 2 ^ (m / 2 * n)) (m - m / 2)) := rfl
theorem digs_length (n : Nat) : ∀ (f : Nat) (x : Int) (m : Nat), 1 ≤ m → m ≤ f → (digs n f x m).length = m
  | 0, _, _, h, h2 => absurd (Nat.le_trans h h2) (by decide)
  | f + 1, x, m, h, h2 => by
    rw [digs_eq]
    by_cases q : m ≤ 1
    · rw [if_pos q, List.length_singleton]; exact Nat.le_antisymm h q
    · have a1 := dig_facts h2 q
      rw [if_neg q, List.length_append, digs_length n f _ _ a1.1 a1.2.1, digs_length n f _ _ a1.2.2.1 a1.2.2.2.1]; exact a1.2.2.2.2
theorem val_append (n : Nat) : ∀ (a b : List Int), val n (a ++ b) = val n a + 2 ^ (a.length * n) * val n b
  | [], b => by simp [val]
  | d :: r, b => by
    have e : (2 : Int) ^ ((r.length + 1) * n) = 2 ^ n * 2 ^ (r.length * n) := by rw [← Int.pow_add]; congr 1; rw [Nat.add_mul]; omega
    simp only [List.cons_append, val, List.length_cons, val_append n r b, e]
    rw [Int.mul_add, Int.mul_assoc, Int.add_assoc]
theorem pow2_pos (s : Nat) : (0 : Int) < 2 ^ s := Int.pow_pos (by decide)
theorem digs_val (n : Nat) : ∀ (f : Nat) (x : Int) (m : Nat), 1 ≤ m → m ≤ f → val n (digs n f x m) = x
  | 0, _, _, h, h2 => absurd (Nat.le_trans h h2) (by decide)
  | f + 1, x, m, h, h2 => by
    rw [digs_eq]
    by_cases q : m ≤ 1
    · rw [if_pos q]; exact (congrArg (x + ·) (Int.mul_zero _)).trans (Int.add_zero x)
    · have a1 := dig_facts h2 q
      rw [if_neg q, val_append, digs_length n f _ _ a1.1 a1.2.1, digs_val n f _ _ a1.1 a1.2.1, digs_val n f _ _ a1.2.2.1 a1.2.2.2.1]
      exact Int.emod_add_mul_ediv x _
theorem digs_bound (n : Nat) : ∀ (f : Nat) (x : Int) (m : Nat), 0 ≤ x → ∀ d ∈ digs n f x m, 0 ≤ d ∧ d ≤ x
  | 0, x, m, h => by simp [digs]
  | f + 1, x, m, h => by
    rw [digs_eq]
    split
    · intro d hd; rw [List.mem_singleton.mp hd]; exact ⟨h, Int.le_refl _⟩
    · intro d hd
      have p := pow2_pos (m / 2 * n)
      rcases List.mem_append.mp hd with q | q
      · have := digs_bound n f (x % 2 ^ (m / 2 * n)) (m / 2) (Int.emod_nonneg _ (by omega)) d q
        exact ⟨this.1, Int.le_trans this.2 (by have := Int.emod_add_mul_ediv x (2 ^ (m / 2 * n)); have := Int.mul_nonneg (Int.le_of_lt p) (Int.ediv_nonneg h (Int.le_of_lt p)); omega)⟩
      · have := digs_bound n f (x / 2 ^ (m / 2 * n)) (m - m / 2) (Int.ediv_nonneg h (by omega)) d q
        exact ⟨this.1, Int.le_trans this.2 (Int.ediv_le_self _ h)⟩
theorem val_nonneg (n : Nat) : ∀ (l : List Int), (∀ d ∈ l, 0 ≤ d) → 0 ≤ val n l
  | [], _ => by simp [val]
  | d :: r, h => by
    have h1 := h d (by simp)
    have h2 := val_nonneg n r fun d hd => h d (by simp [hd])
    simp only [val]
    have := Int.mul_nonneg (Int.le_of_lt (pow2_pos n)) h2
    omega

theorem nat_and_low (x s : Nat) : x &&& ((x >>> s) <<< s) = (x >>> s) <<< s := by
  apply Nat.eq_of_testBit_eq
  intro i
  rw [Nat.testBit_and, Nat.testBit_shiftLeft, Nat.testBit_shiftRight]
  by_cases h : s ≤ i
  · simp [h, Nat.add_sub_cancel' h]
  · simp [h]
theorem xor_low {x : Int} (s : Nat) (h : 0 ≤ x) : Builtin.bitXor x (x / 2 ^ s * 2 ^ s) = x % 2 ^ s := by
  obtain ⟨n, rfl⟩ : ∃ n : Nat, x = n := ⟨x.toNat, by omega⟩
  have e : (n : Int) / 2 ^ s * 2 ^ s = (((n >>> s) <<< s : Nat) : Int) := by
    rw [Nat.shiftLeft_eq, Nat.shiftRight_eq_div_pow]; push_cast; rfl
  have e2 : Builtin.bitAnd (n : Int) (((n >>> s) <<< s : Nat) : Int) = (((n >>> s) <<< s : Nat) : Int) := by
    have : Builtin.bitAnd (n : Int) (((n >>> s) <<< s : Nat) : Int) = ((n &&& ((n >>> s) <<< s) : Nat) : Int) := by
      unfold Builtin.bitAnd
      rw [decide_eq_true (Int.natCast_nonneg _), decide_eq_true (Int.natCast_nonneg _)]
      rfl
    rw [this, nat_and_low]
  have e3 := Int.emod_add_mul_ediv (n : Int) (2 ^ s)
  rw [Int.mul_comm] at e3
  rw [e, bitXor_and, e2, ← e]
  omega
theorem fold_rep {c : Value} : ∀ (n : Nat) (a : Array Value), List.foldl (fun x1 x2 => x1 ++ x2) a (List.replicate n #[c]) = a ++ (List.replicate n c).toArray
  | 0, a => by simp
  | n + 1, a => by
    rw [List.replicate_succ, List.foldl_cons, fold_rep n]
    apply Array.ext'
    simp [List.replicate_succ]
section
variable {w : World} {k : Nat} {env : Env} {own : Own}
theorem VRs.rep {g : Heap} {v : V} {c : Value} (r : VR w g v c) : ∀ n, VRs w g (List.replicate n v) (List.replicate n c)
  | 0 => VRs.nil_iff.mpr rfl
  | n + 1 => VRs.cons_iff.mpr ⟨c, _, rfl, r, VRs.rep r n⟩
theorem mulL {A : Around} {E : Value → Shared → Prop} {s : Shared} {l : Addr} {c : Value} {m : Nat} {x : Int} {u : Tok} {Q : Value → Shared → Prop} (hl : s.heap.get? l = some { cls := .type "list", dict := none, data := .seq #[c] m, slots := #[] }) (h0 : 0 ≤ x) (hx : x < 1000000)
    (h : Q (.ref s.heap.objs.size) { s with heap := s.heap.push { cls := .type "list", data := .seq (List.foldl (fun x1 x2 => x1 ++ x2) #[] (List.replicate (if (#[c] : Array Value).isEmpty = true then 0 else x.toNat) #[c])) } }) : wpAny (model PG w) A (binaryOp .Mult (.ref l) (.int x u)) Q E s :=
  wpAny_binaryOp_repeat_ref (T := "list") (U := "int") (by decide) ⟨_, hl, rfl⟩ (fun s' => typeIs_int s' x u) noFill_list_mul F.fills_int_mul F.slot_int_rmul repeat_list F.slot_int_index.lookup
    (call_meets F.slot_int_rmul (typeIs_int s x u) F.entry_int_rmul (F.args_int_rmul_2 _ _) (int___rmul___int_list x u l #[c] m)
      ⟨hl, rfl, ⟨_, hl, rfl⟩, call_meets F.slot_list_mul ⟨_, hl, rfl⟩ F.entry_list_mul (F.args_list_mul_2 _ _)
        (AutoListH.list___mul___list_int_3 l #[c] m x u (by simp [Builtin.List.listFitsIndex]; omega) (by show ¬ (1 * x.toNat > _); omega) (by show ¬ Builtin.List.listTooLong (1 * x.toNat) = true; simp [Builtin.List.listTooLong, sizeLine]; omega))
        ⟨hl, h⟩⟩)
theorem w2_mul_list {l : Addr} {v : V} {n : Nat} {P : V → Own → Prop} (hm : (l, O.list [v]) ∈ own) (hn : n < 1000000) (h : ∀ b, P (.ref b) (own ++ [(b, .list (List.replicate n v))])) : W2 w k (.ref l) (.int n) (binaryOp .Mult) (VR w) own P := by
  rintro A g s rest Q E ⟨a, b⟩ ok S ⟨r1, r2⟩ K
  obtain ⟨u, e⟩ := VR.int_iff.mp r2
  rw [VR.raw_iff] at r1
  dsimp only at r1 e ⊢
  subst r1 e
  obtain ⟨cvs, m, ho, r⟩ := ent_list S (mem_app hm)
  obtain ⟨c, r', rfl, hx, hr⟩ := VRs.cons_iff.mp r
  rw [VRs.nil_iff] at hr; subst hr
  refine mulL ho (by omega) (by omega) ?_
  have e : (List.foldl (fun x1 x2 => x1 ++ x2) #[] (List.replicate (if (#[c] : Array Value).isEmpty = true then 0 else (n : Int).toNat) #[c])) = (List.toArray (List.replicate n c)) := by
    rw [if_neg (by simp), Int.toNat_natCast, fold_rep]; simp
  rw [e]
  exact K _ _ _ g (.ref s.heap.objs.size) _ (h _) (S.pushE _ ⟨_, _, rfl, VRs.rep hx n⟩) (StaysIn.refl _) (VR.raw_iff.mpr rfl)
theorem w1_truthy_list {l : Addr} {vs : List V} {P : Bool → Own → Prop} (h : P (!vs.isEmpty) own) (hm : (l, O.list vs) ∈ own) (hn : vs.length < 1000000) : W1 w k (.ref l) truthy BR own P := by
  intro A g s rest Q E c ok S r K
  rw [VR.raw_iff] at r; subst r
  obtain ⟨cvs, hl, r⟩ := ent_intlist S (mem_app hm)
  have e : (!(List.toArray cvs).isEmpty) = (!vs.isEmpty) := by
    have := r.length
    cases cvs <;> cases vs <;> simp_all
  exact wpAny_truthy_list hl (by rw [List.size_toArray, r.length]; omega) (K _ s.heap _ g (!vs.isEmpty) _ h S (StaysIn.refl _) e)
theorem ws_DefX {name : Str} {params : Arguments} {body : List Stmt} {scope : Scope} {pos : Pos} {c Pt : Addr} {clos : List (Str × Addr)} {P : FV → Own → Prop} {pre post : Own}
    (hc : (c, Pt) ∈ [(41, 37), (34, 30)]) (hcode : env.code = .ref c) (hge0 : env.globals = mainGlobals) (hcl : closureFor scope env = pure clos) (hd0 : params.defaults = []) (hk0 : params.kw_defaults = []) (ha : annTrees params none env = [])
    (hown : own = pre ++ (Pt, tabO pos.line pos.col (qualnameIn env name name)) :: post)
    (h : ∀ f X, X = fnO name (qualnameIn env name name) params body scope clos → W1 w k (.ref f) (fun c => storeName env name c) UR (own ++ [(f, X)]) fun _ o => P .next o) : WS w k env (.FunctionDef name params body [] none [] scope none name pos) own P :=
  ws_Def hc hcode hge0 hcl hd0 hk0 ha hown fun f => hown ▸ h f _ rfl
end
theorem bindX2 {params : Arguments} {names : List Str} (h : ∀ (fd : FuncData) a b, fd.params = params → fd.defaults = .none → fd.kwdefaults = .none → bindArgs fd ⟨[a, b], []⟩ = pure (names.zip [a, b])) (fd : FuncData) (cvs : List Value) (p1 : fd.params = params) (p2 : fd.defaults = .none) (p3 : fd.kwdefaults = .none) (e : cvs.length = 2) : bindArgs fd ⟨cvs, []⟩ = pure (names.zip cvs) :=
  bind2 (fun a b => h fd a b p1 p2 p3) cvs e
theorem bindX3 {params : Arguments} {names : List Str} (h : ∀ (fd : FuncData) a b c, fd.params = params → fd.defaults = .none → fd.kwdefaults = .none → bindArgs fd ⟨[a, b, c], []⟩ = pure (names.zip [a, b, c])) (fd : FuncData) (cvs : List Value) (p1 : fd.params = params) (p2 : fd.defaults = .none) (p3 : fd.kwdefaults = .none) (e : cvs.length = 3) : bindArgs fd ⟨cvs, []⟩ = pure (names.zip cvs) :=
  bind3 (fun a b c => h fd a b c p1 p2 p3) cvs e
section
variable {w : World} {k : Nat} {env : Env} {own : Own}
theorem w2_mulE {i j z : Int} {P : V → Own → Prop} (h : P (.int z) own) (e : i * j = z) (hm : i.natAbs < 2 ^ 63) : W2 w k (.int i) (.int j) (binaryOp .Mult) (VR w) own P := w2_mul (e.symm ▸ h) hm
theorem w2_floordivE {i j z : Int} {P : V → Own → Prop} (h : P (.int z) own) (e : i.fdiv j = z) (hj : j ≠ 0) (hs : j.natAbs < 1073741824) : W2 w k (.int i) (.int j) (binaryOp .FloorDiv) (VR w) own P := w2_floordiv (e.symm ▸ h) hj hs
theorem w2_shrE {i : Int} {s : Nat} {P : V → Own → Prop} (h : P (.int (i / 2 ^ s)) own) : W2 w k (.int i) (.int (s : Nat)) (binaryOp .RShift) (VR w) own P :=
  w2_rshift (by rw [Int.toNat_natCast, Int.fdiv_eq_ediv_of_nonneg _ (Int.le_of_lt (pow2_pos s))]; exact h) (Int.natCast_nonneg s)
theorem w2_shlE {i z : Int} {s : Nat} {P : V → Own → Prop} (h : P (.int z) own) (e : i * 2 ^ s = z) (hs : s ≤ 1000000) (h0 : 0 ≤ i) (h1 : i < 2 ^ 63) : W2 w k (.int i) (.int (s : Nat)) (binaryOp .LShift) (VR w) own P :=
  w2_lshift (by rw [Int.toNat_natCast, e]; exact h) (Int.natCast_nonneg s) (Int.ofNat_le.mpr hs) (by omega)
theorem w2_xorE {i j z : Int} {P : V → Own → Prop} (h : P (.int z) own) (e : Builtin.bitXor i j = z) : W2 w k (.int i) (.int j) (binaryOp .BitXor) (VR w) own P := w2_xor (e.symm ▸ h)
end
theorem mid_facts {l r f : Nat} (h1 : l < r) (h2 : r - l ≤ f + 1) (h3 : l + 1 ≠ r) : ∃ h m : Nat, h = (r - l) / 2 ∧ l < m ∧ m < r ∧ m - l = h ∧ r - m = r - l - h ∧ h ≤ f ∧ r - m ≤ f ∧ 1 ≤ h ∧ ¬ r - l ≤ 1 ∧ h ≤ r - l ∧ l + h = m ∧ ((l : Int) + (r : Int)) / 2 = (m : Int) ∧ (m : Int) - (l : Int) = (h : Int) := by
  obtain ⟨d, rfl⟩ := Nat.exists_eq_add_of_lt h1
  have e : l + d + 1 - l = d + 1 := by rw [Nat.add_assoc, Nat.add_sub_cancel_left]
  rw [e] at h2 ⊢
  have hd : 1 ≤ d := Nat.one_le_iff_ne_zero.mpr fun z => h3 (by rw [z])
  clear h1 h3
  generalize hh : (d + 1) / 2 = h
  have a1 : 1 ≤ h := hh ▸ Nat.div_pos (Nat.succ_le_succ hd) (by decide)
  have a2 : h ≤ d := by rw [← hh]; exact Nat.lt_succ_iff.mp (Nat.div_lt_self (Nat.succ_pos d) (by decide))
  have a3 : l + d + 1 - (l + h) = d + 1 - h := by rw [Nat.add_assoc, Nat.add_sub_add_left]
  refine ⟨h, l + h, rfl, Nat.lt_add_of_pos_right a1, Nat.lt_succ_of_le (Nat.add_le_add_left a2 l), Nat.add_sub_cancel_left l h, a3, Nat.le_trans a2 (Nat.succ_le_succ_iff.mp h2), ?_, a1, Nat.not_le.mpr (Nat.succ_lt_succ hd), Nat.le_succ_of_le a2, rfl, ?_, ?_⟩
  · rw [a3]; exact Nat.le_trans (Nat.sub_le_of_le_add (Nat.add_le_add_left a1 d)) (Nat.succ_le_succ_iff.mp h2)
  · have e2 : (l + (l + d + 1)) / 2 = h + l := hh ▸ (congrArg (· / 2) ((Nat.add_assoc l l (d + 1)).symm.trans ((Nat.add_comm _ _).trans (congrArg (d + 1 + ·) (Nat.mul_two l).symm)))).trans (Nat.add_mul_div_right (d + 1) l (by decide))
    exact congrArg Int.ofNat (e2.trans (Nat.add_comm h l))
  · rw [Int.natCast_add, Int.add_comm, Int.add_sub_cancel]
theorem beq_cast {l r : Nat} : (((l : Int) + 1) == (r : Int)) = decide (l + 1 = r) := by
  by_cases h : l + 1 = r
  · subst h; simp
  · rw [decide_eq_false h]; exact beq_eq_false_iff_ne.mpr (by omega)
noncomputable def put {α : Type} (vs : List α) (l : Nat) (A : List α) (r : Nat) : List α := vs.take l ++ A ++ vs.drop r
theorem put_len {α : Type} {vs A : List α} {l r : Nat} (hA : A.length = r - l) (h1 : l ≤ r) (h3 : r ≤ vs.length) : (put vs l A r).length = vs.length := by
  rw [put, List.length_append, List.length_append, List.length_take, List.length_drop, hA, Nat.min_eq_left (Nat.le_trans h1 h3), Nat.add_sub_cancel' h1, Nat.add_sub_cancel' h3]
theorem put_put {α : Type} {vs A B : List α} {l m r : Nat} (hA : A.length = m - l) (h1 : l ≤ m) (h2 : m ≤ r) (h3 : r ≤ vs.length) : put (put vs l A m) m B r = put vs l (A ++ B) r := by
  have e : (vs.take l ++ A).length = m := by rw [List.length_append, List.length_take, hA, Nat.min_eq_left (Nat.le_trans h1 (Nat.le_trans h2 h3)), Nat.add_sub_cancel' h1]
  unfold put
  rw [List.take_left' e, List.drop_append, List.drop_of_length_le (e.symm ▸ h2), List.nil_append, List.drop_drop, e, Nat.add_sub_cancel' h2]
  simp
theorem put_one {α : Type} {vs : List α} {l r : Nat} {a : α} (h : l + 1 = r) (h3 : r ≤ vs.length) : vs.set l a = put vs l [a] r := by
  subst h
  rw [List.set_eq_take_append_cons_drop, if_pos (by omega)]
  simp [put]
theorem put_all {α : Type} {vs A : List α} {r : Nat} (h : vs.length ≤ r) : put vs 0 A r = A := by
  simp [put, List.drop_of_length_le h]

end

-- B6
set_option maxRecDepth 100000
set_option maxHeartbeats 1000000
section
noncomputable def T30 : O := tabO 32 4 "_int2digits.<locals>.inner"
noncomputable def T37 : O := tabO 47 4 "_digits2int.<locals>.inner"
noncomputable abbrev intsV (l : List Int) : List V := l.map V.int
noncomputable def toDigs (n : Nat) (a : Int) : List Int := if a = 0 then [] else digs n ((Builtin.Int.intBits a + n - 1) / n) a ((Builtin.Int.intBits a + n - 1) / n)

theorem lk_one {x y : Str} {v u : V} (h : List.lookup y [(x, v)] = some u) : y = x ∧ u = v := by
  simp only [List.lookup] at h
  split at h
  · rename_i q; exact ⟨eq_of_beq q, by cases h; rfl⟩
  · cases h
theorem VRs.two {w : World} {g : Heap} {v u : V} {cvs : List Value} (r : VRs w g [v, u] cvs) : ∃ x y, cvs = [x, y] ∧ VR w g v x ∧ VR w g u y := by
  obtain ⟨x, r1, rfl, hx, hr⟩ := VRs.cons_iff.mp r
  obtain ⟨y, r2, rfl, hy, hr⟩ := VRs.cons_iff.mp hr
  rw [VRs.nil_iff] at hr; subst hr
  exact ⟨x, y, rfl, hx, hy⟩
theorem mem3 {α : Type} {p : α → Prop} {a b c : α} (h1 : p a) (h2 : p b) (h3 : p c) : ∀ x ∈ [a, b, c], p x := by
  intro x hx
  simp only [List.mem_cons, List.not_mem_nil, or_false] at hx
  rcases hx with rfl | rfl | rfl
  · exact h1
  · exact h2
  · exact h3
theorem mem2 {α : Type} {p : α → Prop} {a b : α} (h1 : p a) (h2 : p b) : ∀ x ∈ [a, b], p x := by
  intro x hx
  simp only [List.mem_cons, List.not_mem_nil, or_false] at hx
  rcases hx with rfl | rfl
  · exact h1
  · exact h2
theorem bits_div {a : Int} {n : Nat} (hn : 1 ≤ n) (hb : Builtin.Int.intBits a ≤ 20) : ∃ D : Nat, (((Builtin.Int.intBits a : Nat) : Int) + (n : Int) - 1).fdiv n = (D : Int) ∧ D ≤ 20 ∧ toDigs n a = (if a = 0 then [] else digs n D a D) ∧ (a ≠ 0 → 1 ≤ D) ∧ (a = 0 → D = 0) := by
  refine ⟨(Builtin.Int.intBits a + n - 1) / n, ?_, ?_, rfl, fun h => ?_, fun h => ?_⟩
  · rw [Int.fdiv_eq_ediv_of_nonneg _ (by omega)]; push_cast [show 1 ≤ Builtin.Int.intBits a + n from by omega]; rfl
  · have h1 : (Builtin.Int.intBits a + n - 1) / n ≤ (20 * n + (n - 1)) / n := Nat.div_le_div_right (by
      have : Builtin.Int.intBits a * 1 ≤ 20 * n := Nat.mul_le_mul hb hn
      omega)
    have e : (20 * n + (n - 1)) / n = 20 := by
      rw [Nat.mul_comm, Nat.mul_add_div (by omega), Nat.div_eq_of_lt (by omega)]
    exact e ▸ h1
  · have : 1 ≤ Builtin.Int.intBits a := by
      unfold Builtin.Int.intBits
      rw [if_neg (by simpa using h)]; omega
    exact (Nat.one_le_div_iff (by omega)).mpr (by omega)
  · subst h
    exact Nat.div_eq_of_lt (by show 0 + n - 1 < n; omega)
theorem half_facts {x : Int} (S : Nat) (h5 : 0 ≤ x) (h6 : x < 2 ^ 40) : 0 ≤ x / 2 ^ S ∧ x / 2 ^ S < 2 ^ 40 ∧ 0 ≤ x % 2 ^ S ∧ x % 2 ^ S < 2 ^ 40 ∧ x / 2 ^ S < 2 ^ 63 := by
  have hp := pow2_pos S
  have hx1 : 0 ≤ x / 2 ^ S := Int.ediv_nonneg h5 (Int.le_of_lt hp)
  have hx2 : x / 2 ^ S ≤ x := Int.ediv_le_self _ h5
  have e := Int.emod_add_mul_ediv x (2 ^ S)
  have m := Int.mul_nonneg (Int.le_of_lt hp) hx1
  have hx3 : 0 ≤ x % 2 ^ S := Int.emod_nonneg _ (by omega)
  exact ⟨hx1, Int.lt_of_le_of_lt hx2 h6, hx3, by omega, by omega⟩
theorem S_small {h n : Nat} (h1 : h ≤ 20) (h2 : n ≤ 64) : h * n ≤ 1000000 ∧ ((h : Int)).natAbs < 2 ^ 63 ∧ ((h : Int) * (n : Int)) = ((h * n : Nat) : Int) := by
  have := Nat.mul_le_mul h1 h2
  exact ⟨by omega, by omega, by push_cast; rfl⟩

theorem wc_int2digits {w : World} {a : Int} {n : Nat} (ha : 0 ≤ a) (ha2 : a < 2 ^ 40) (hn : 1 ≤ n) (hn2 : n ≤ 64) (hb : Builtin.Int.intBits a ≤ 20) :
    WC w 450 (.ref 35) [.int a, .int n] [(30, T30)] fun v o => ∃ l, v = .ref l ∧ o = [(30, T30), (l, .list (intsV (toDigs n a)))] := by
  obtain ⟨D, hfd, hD, hT, hD1, hD0⟩ := bits_div hn hb
  refine wc_cells (k := 448) (names := ["a", "n"]) (ks := [("a", .int a)]) (x1 := "n") (x2 := "a_digits") (x3 := "inner") (o1 := .cell (.int n)) (o2 := .nocell) (o3 := .nocell) rfl rfl rfl (bind2 fun _ _ => rfl) (fun m => mem2 (.inl rfl) (.inr ⟨rfl, rfl⟩)) (fun m => rfl) (by decide) (fun g cvs r => ?_) (fun g cvs r => ?_) rfl (fun L => Wg.abs fun C fin => ?_)
  · obtain ⟨x, y, rfl, hx, hy⟩ := r.two
    intro z v hz
    obtain ⟨rfl, rfl⟩ := lk_one hz
    exact ⟨x, rfl, hx⟩
  · obtain ⟨x, y, rfl, hx, hy⟩ := r.two
    exact mem3 (.inr ⟨_, _, rfl, rfl, hy⟩) (.inl rfl) (.inl rfl)
  · refine Wg.dropPost ?_
    repeat' walk_at "m"
    refine cLst_i (by decide) fun z => ?_
    walk_at "n"
    refine we_bit_length ?_
    repeat' walk_at "m"
    refine ⟨_, rfl, ?_⟩
    repeat' walk_at "m"
    refine w2_floordivE ?_ hfd (Int.natCast_ne_zero.mpr (Nat.ne_of_gt hn)) (by omega)
    walk_at "n"
    refine w2_mul_list (v := .int 0) (by walk_at "mem") (by omega) fun b => ?_
    (refine' w1_store_cell ?_ ?hc ?hm ?ho ?hk ?hl); (case hk => exact rfl); (case hl => exact rfl); (case hc => exact rfl); (case hm => walk_at "at"); (case ho => exact .inl rfl)
    walk_at "n"
    refine ws_DefX (c := 34) (Pt := 30) (pre := [(L, O.frame [("a", V.int a)]), (L + 1, O.cell (V.int n)), (L + 2, O.cell (V.ref b)), (L + 3, O.nocell)]) (post := [(z, O.list [V.int 0]), (b, O.list (List.replicate D (V.int 0)))]) (.tail _ (.head _)) rfl rfl rfl rfl rfl rfl rfl fun fn X hX => ?_
    dsimp only [List.cons_append, List.nil_append, List.append]
    (refine' w1_store_cell ?_ ?hc ?hm ?ho ?hk ?hl); (case hk => exact rfl); (case hl => exact rfl); (case hc => exact rfl); (case hm => walk_at "at"); (case ho => exact .inl rfl)
    walk_at "n"
    have inner : ∀ (f : Nat) (x : Int) (l r : Nat) (vs : List V), l < r → r - l ≤ f → r ≤ vs.length → vs.length ≤ 20 → 0 ≤ x → x < 2 ^ 40 →
        WC w (20 * f) (.ref fn) [.int x, .int l, .int r] [(L + 1, O.cell (V.int n)), (L + 2, O.cell (V.ref b)), (L + 3, O.cell (V.ref fn)), (b, O.list vs), (fn, X)] fun v o => v = .non ∧ o = [(L + 1, O.cell (V.int n)), (L + 2, O.cell (V.ref b)), (L + 3, O.cell (V.ref fn)), (b, O.list (put vs l (intsV (digs n f x (r - l))) r)), (fn, X)] := by
      subst hX
      clear fin hfd hD hT hD1 hD0 ha ha2 hb hn
      intro f
      induction f with
      | zero =>
        intro x l r vs h1 h2
        exact absurd h1 (by omega)
      | succ f ih =>
        intro x l r vs h1 h2 h3 h4 h5 h6
        refine wc_nest (k := 20 * f + 18) (names := ["x", "L", "R"]) (by walk_at "mem") (bindX3 fun fd a b c p1 p2 p3 => by unfold bindArgs; rw [p1, p2, p3]; rfl) rfl (by decide) (by decide) (fun M cv => Wg.abs fun C fin => ?_)
        repeat' walk_at "m"
        rw [beq_cast]
        by_cases hlr : l + 1 = r
        · refine if_T (decide_eq_true hlr) ?_
          clear ih
          repeat' walk_at "m"
          refine' w3_list ?_ ?hat (Int.natCast_nonneg l) ?hln (by omega)
          case hat => walk_at "at"
          case hln => rw [Int.toNat_natCast]; omega
          repeat' walk_at "m"
          refine fin _ _ ⟨_, _, rfl, rfl, ?_⟩
          rw [Int.toNat_natCast, put_one hlr h3, digs_eq, if_pos (by omega)]; rfl
        · refine if_F (decide_eq_false hlr) ?_
          obtain ⟨h, m, eh, m1, m2, m3, m4, m5, m6, m7, m8, m9, m10, m11, m12⟩ := mid_facts h1 h2 hlr
          obtain ⟨s1, s2, s3⟩ := S_small (h := h) (Nat.le_trans m9 (Nat.le_trans (Nat.sub_le _ _) (Nat.le_trans h3 h4))) hn2
          have hd : digs n (f + 1) x (r - l) = digs n f (x % 2 ^ (h * n)) (m - l) ++ digs n f (x / 2 ^ (h * n)) (r - m) := by
            rw [digs_eq, if_neg m8, m3, m4, eh]
          have hl1 : (intsV (digs n f (x % 2 ^ (h * n)) (m - l))).length = m - l := by
            rw [List.length_map]; exact digs_length n f _ _ (m3 ▸ m7) (m3 ▸ m5)
          have hml : m - l ≤ f := m3 ▸ m5
          have hpl := put_len (vs := vs) hl1 (Nat.le_of_lt m1) (Nat.le_trans (Nat.le_of_lt m2) h3)
          have hpp := put_put (vs := vs) (B := intsV (digs n f (x / 2 ^ (h * n)) (r - m))) hl1 (Nat.le_of_lt m1) (Nat.le_of_lt m2) h3
          have hx := xor_low (h * n) h5
          obtain ⟨x1, x2, x3, x4, x5⟩ := half_facts (h * n) h5 h6
          rw [hd] at fin
          clear hd eh m3 m4 m7 m8 m9 m10 hl1
          generalize h * n = S at *
          repeat' walk_at "m"
          refine w2_shr1 ?_ m11
          repeat' walk_at "m"
          rw [m12]
          refine w2_mulE ?_ s3 s2
          repeat' walk_at "m"
          refine w2_shrE ?_
          repeat' walk_at "m"
          refine w2_shlE ?_ rfl s1 x1 x5
          refine w2_xorE ?_ hx
          repeat' walk_at "m"
          refine wcw_nest (by walk_at "mem") ?_
          repeat' walk_at "m"
          refine ⟨by walk_at "mem", ?_⟩
          refine Wg.use [false, true, true, true, true, true] (ih (x % 2 ^ S) l m vs m1 hml (Nat.le_trans (Nat.le_of_lt m2) h3) h4 x3 x4) (post_eq ?_) rfl (by omega)
          walk_at "n"
          refine wcw_nest (by walk_at "mem") ?_
          repeat' walk_at "m"
          refine ⟨by walk_at "mem", ?_⟩
          refine Wg.use [false, true, true, true, true, true] (ih (x / 2 ^ S) m r _ m2 m6 (hpl.symm ▸ h3) (hpl.symm ▸ h4) x1 x2) (post_eq ?_) rfl (by omega)
          walk_at "n"
          refine fin _ _ ⟨_, _, rfl, rfl, ?_⟩
          rw [hpp, ← List.map_append]
    clear hfd
    refine wb_value ?_
    repeat' walk_at "m"
    refine w1_truthy_int ?_
    by_cases ha0 : a = 0
    · refine if_F (by simpa using ha0) ?_
      have hb0 : List.replicate D (V.int 0) = intsV (toDigs n a) := by rw [hT, if_pos ha0, hD0 ha0]; rfl
      walk_at "n"
      exact ⟨[(L, _), (L + 1, _), (L + 2, _), (L + 3, _), (30, _), (b, _)], by walk_at "sl", fin _ _ ⟨_, _, _, _, _, rfl, b, rfl, by rw [hb0]⟩⟩
    · refine if_T (by simpa using ha0) ?_
      have hD2 := hD1 ha0
      have hr : (List.replicate D (V.int 0)).length = D := List.length_replicate
      have hb0 : put (List.replicate D (V.int 0)) 0 (intsV (digs n D a (D - 0))) D = intsV (toDigs n a) := by
        rw [put_all (Nat.le_of_eq hr), hT, if_neg ha0]; rfl
      have use := inner D a 0 D (List.replicate D (V.int 0)) hD2 (Nat.le_refl _) (Nat.le_of_eq hr.symm) (hr.symm ▸ hD) ha ha2
      rw [hb0] at use
      clear hb0 hT hD1 hD0 inner
      subst hX
      walk_at "n"
      refine wcw_nest (by walk_at "mem") ?_
      walk_at "n"
      refine wc_len ?_ (by walk_at "mem") (by rw [hr]; omega)
      rw [hr]
      walk_at "n"
      refine ⟨by walk_at "mem", ?_⟩
      refine Wg.use [false, true, true, true, false, false, true, true] use (post_eq ?_) rfl (by omega)
      walk_at "n"
      exact ⟨[(L, _), (L + 1, _), (L + 2, _), (L + 3, _), (30, _), (b, _)], by walk_at "sl", fin _ _ ⟨_, _, _, _, _, rfl, _, rfl, rfl⟩⟩

end

-- B7
set_option maxRecDepth 100000
set_option maxHeartbeats 1000000
section
noncomputable def seg (ds : List Int) (l m : Nat) : List Int := (ds.drop l).take m
theorem seg_split (ds : List Int) (l m h : Nat) (hh : h ≤ m) : seg ds l m = seg ds l h ++ seg ds (l + h) (m - h) := by
  unfold seg
  rw [← List.take_append_drop h ((ds.drop l).take m), List.take_take, List.drop_take, List.drop_drop, Nat.min_eq_left hh]
theorem seg_length (ds : List Int) (l m : Nat) (h : l + m ≤ ds.length) : (seg ds l m).length = m := by
  rw [seg, List.length_take, List.length_drop]; exact Nat.min_eq_left (Nat.le_sub_of_add_le (Nat.add_comm l m ▸ h))
theorem seg_mem {ds : List Int} {l m : Nat} {d : Int} (h : d ∈ seg ds l m) : d ∈ ds := List.mem_of_mem_drop (List.mem_of_mem_take h)
theorem seg_one (ds : List Int) (l : Nat) (h : l < ds.length) : seg ds l 1 = [ds[l]] := by
  unfold seg; rw [List.take_one, List.head?_drop, List.getElem?_eq_getElem h]; rfl

theorem get_ints {ds : List Int} {l : Nat} (h : l < ds.length) : (intsV ds)[(l : Int).toNat]? = some (V.int ds[l]) := by
  rw [Int.toNat_natCast, List.getElem?_map, List.getElem?_eq_getElem h]; rfl
theorem val_halves {n : Nat} {ds : List Int} {l r h m : Nat} (hpos : ∀ d ∈ ds, 0 ≤ d) (h1 : l + h = m) (h2 : h ≤ r - l) (h3 : r ≤ ds.length) (h4 : m < r) (hv : val n (seg ds l (r - l)) < 2 ^ 60) :
    val n (seg ds m (r - m)) * 2 ^ (h * n) + val n (seg ds l (m - l)) = val n (seg ds l (r - l)) ∧ val n (seg ds m (r - m)) < 2 ^ 60 ∧ val n (seg ds l (m - l)) < 2 ^ 60 ∧ 0 ≤ val n (seg ds m (r - m)) ∧ val n (seg ds m (r - m)) < 2 ^ 63 := by
  have e := seg_split ds l (r - l) h h2
  rw [h1, show r - l - h = r - m from by omega, show h = m - l from by omega] at e
  have hv2 : val n (seg ds l (r - l)) = val n (seg ds l (m - l)) + 2 ^ (h * n) * val n (seg ds m (r - m)) := by
    rw [e, val_append, seg_length _ _ _ (by omega), show m - l = h from by omega]
  have hp := pow2_pos (h * n)
  have n1 := val_nonneg n (seg ds l (m - l)) fun d hd => hpos d (seg_mem hd)
  have n2 := val_nonneg n (seg ds m (r - m)) fun d hd => hpos d (seg_mem hd)
  rw [hv2] at hv ⊢
  clear hv2 e hpos h1 h2 h3 h4
  generalize val n (seg ds m (r - m)) = B at *
  generalize val n (seg ds l (m - l)) = A at *
  generalize (2 : Int) ^ (h * n) = p at *
  have hge : B ≤ p * B := by
    have := Int.mul_le_mul_of_nonneg_right (show (1 : Int) ≤ p from hp) n2
    rwa [Int.one_mul] at this
  have h2 : B < 2 ^ 60 := Int.lt_of_le_of_lt (Int.le_trans hge (Int.le_add_of_nonneg_left n1)) hv
  exact ⟨by rw [Int.mul_comm, Int.add_comm], h2, Int.lt_of_le_of_lt (Int.le_add_of_nonneg_right (Int.le_trans n2 hge)) hv, n2, Int.lt_trans h2 (by decide)⟩

theorem wc_digits2int {w : World} {q : Addr} {ds : List Int} {n : Nat} (hn : 1 ≤ n) (hn2 : n ≤ 64) (hlen : ds.length ≤ 20) (hpos : ∀ d ∈ ds, 0 ≤ d) (hval : val n ds < 2 ^ 60) :
    WC w 450 (.ref 42) [.ref q, .int n] [(37, T37), (q, .list (intsV ds))] fun v o => v = .int (val n ds) ∧ o = [(37, T37), (q, .list (intsV ds))] := by
  refine wc_cells (k := 448) (names := ["digits", "n"]) (ks := []) (x1 := "digits") (x2 := "n") (x3 := "inner") (o1 := .cell (.ref q)) (o2 := .cell (.int n)) (o3 := .nocell) rfl rfl rfl (bind2 fun _ _ => rfl) (fun m => mem2 (.inr ⟨rfl, rfl⟩) (.inr ⟨rfl, rfl⟩)) (fun m => rfl) (by decide) (fun g cvs r => ?_) (fun g cvs r => ?_) rfl (fun L => Wg.abs fun C fin => ?_)
  · intro z v hz
    simp at hz
  · obtain ⟨x, y, rfl, hx, hy⟩ := r.two
    exact mem3 (.inr ⟨_, _, rfl, rfl, hx⟩) (.inr ⟨_, _, rfl, rfl, hy⟩) (.inl rfl)
  · refine Wg.dropPost ?_
    walk_at "n"
    refine ws_DefX (c := 41) (Pt := 37) (pre := [(L, O.frame []), (L + 1, O.cell (.ref q)), (L + 2, O.cell (.int n)), (L + 3, O.nocell)]) (post := [(q, .list (intsV ds))]) (.head _) rfl rfl rfl rfl rfl rfl rfl fun fn X hX => ?_
    dsimp only [List.cons_append, List.nil_append, List.append]
    (refine' w1_store_cell ?_ ?hc ?hm ?ho ?hk ?hl); (case hk => exact rfl); (case hl => exact rfl); (case hc => exact rfl); (case hm => walk_at "at"); (case ho => exact .inl rfl)
    walk_at "n"
    have inner : ∀ (f : Nat) (l r : Nat), l < r → r - l ≤ f → r ≤ ds.length → val n (seg ds l (r - l)) < 2 ^ 60 →
        WC w (20 * f) (.ref fn) [.int l, .int r] [(L + 1, O.cell (.ref q)), (L + 2, O.cell (.int n)), (L + 3, O.cell (V.ref fn)), (q, .list (intsV ds)), (fn, X)] fun v o => v = .int (val n (seg ds l (r - l))) ∧ o = [(L + 1, O.cell (.ref q)), (L + 2, O.cell (.int n)), (L + 3, O.cell (V.ref fn)), (q, .list (intsV ds)), (fn, X)] := by
      subst hX
      clear fin hn hval
      intro f
      induction f with
      | zero =>
        intro l r h1 h2
        exact absurd h1 (by omega)
      | succ f ih =>
        intro l r h1 h2 h3 h4
        refine wc_nest (k := 20 * f + 18) (names := ["L", "R"]) (by walk_at "mem") (bindX2 fun fd a b p1 p2 p3 => by unfold bindArgs; rw [p1, p2, p3]; rfl) rfl (by decide) (by decide) (fun M cv => Wg.abs fun C fin => ?_)
        walk_at "n"
        rw [beq_cast]
        by_cases hlr : l + 1 = r
        · refine if_T (decide_eq_true hlr) ?_
          clear ih
          have hb0 : l < ds.length := Nat.lt_of_lt_of_le h1 h3
          have he : val n (seg ds l (r - l)) = ds[l] := by
            rw [show r - l = 1 from by omega, seg_one ds l hb0]; simp [val]
          rw [he] at fin
          clear he h4
          walk_at "n"
          refine w2_list (v := .int ds[l]) ?_ (by walk_at "mem") (Int.natCast_nonneg l) (get_ints hb0) (by omega)
          walk_at "n"
          exact fin _ _ ⟨_, _, rfl, rfl, rfl⟩
        · refine if_F (decide_eq_false hlr) ?_
          obtain ⟨h, m, eh, m1, m2, m3, m4, m5, m6, m7, m8, m9, m10, m11, m12⟩ := mid_facts h1 h2 hlr
          obtain ⟨s1, s2, s3⟩ := S_small (h := h) (Nat.le_trans m9 (Nat.le_trans (Nat.sub_le _ _) (Nat.le_trans h3 hlen))) hn2
          obtain ⟨v1, v2, v3, v4, v5⟩ := val_halves hpos m10 m9 h3 m2 h4
          have hml : m - l ≤ f := m3 ▸ m5
          rw [← v1] at fin
          clear eh m3 m4 m5 m7 m8 m9 m10 v1 h4
          generalize h * n = S at *
          walk_at "n"
          refine w2_shr1 ?_ m11
          walk_at "n"
          rw [m12]
          refine w2_mulE ?_ s3 s2
          walk_at "n"
          refine wcw_nest (by walk_at "mem") ?_
          walk_at "n"
          refine ⟨by walk_at "mem", ?_⟩
          refine Wg.use [false, true, true, true, true, true] (ih m r m2 m6 h3 v2) (post_eq ?_) rfl (by omega)
          walk_at "n"
          refine w2_shlE ?_ rfl s1 v4 v5
          walk_at "n"
          refine wcw_nest (by walk_at "mem") ?_
          walk_at "n"
          refine ⟨by walk_at "mem", ?_⟩
          refine Wg.use [false, true, true, true, true, true] (ih l m m1 hml (Nat.le_trans (Nat.le_of_lt m2) h3) v3) (post_eq ?_) rfl (by omega)
          walk_at "n"
          exact fin _ _ ⟨_, _, rfl, rfl, rfl⟩
    refine wb_value ?_
    walk_at "n"
    refine w1_truthy_list ?_ (by walk_at "mem") (by rw [List.length_map]; omega)
    by_cases hd0 : ds = []
    · subst hd0
      refine if_F rfl ?_
      walk_at "n"
      exact ⟨[(L, _), (L + 1, _), (L + 2, _), (L + 3, _), (37, _), (q, _)], by walk_at "sl", fin _ _ ⟨_, _, _, _, _, rfl, rfl, rfl⟩⟩
    · have hl0 : 0 < ds.length := List.length_pos_iff.mpr hd0
      refine if_T (by cases ds; exact absurd rfl hd0; rfl) ?_
      have hsf : seg ds 0 (ds.length - 0) = ds := by simp [seg]
      have use := inner ds.length 0 ds.length hl0 (Nat.le_refl _) (Nat.le_refl _) (by rw [hsf]; exact hval)
      rw [hsf] at use
      clear hsf inner
      subst hX
      walk_at "n"
      refine wcw_nest (by walk_at "mem") ?_
      walk_at "n"
      refine wc_len ?_ (by walk_at "mem") (by rw [List.length_map]; omega)
      rw [List.length_map]
      walk_at "n"
      refine ⟨by walk_at "mem", ?_⟩
      refine Wg.use [false, true, true, true, false, true, true] use (post_eq ?_) rfl (by omega)
      walk_at "n"
      exact ⟨[(L, _), (L + 1, _), (L + 2, _), (L + 3, _), (37, _), (q, _)], by walk_at "sl", fin _ _ ⟨_, _, _, _, _, rfl, rfl, rfl⟩⟩

end

-- B8
set_option maxRecDepth 100000
set_option maxHeartbeats 1000000
section
theorem intBits_small {a : Int} {k : Nat} (h0 : 0 ≤ a) (h : a < 2 ^ k) : Builtin.Int.intBits a ≤ k := by
  unfold Builtin.Int.intBits
  split
  · omega
  · rename_i q
    have : a.natAbs ≠ 0 := by simp at q; omega
    have h2 : a.natAbs < 2 ^ k := by
      have : ((a.natAbs : Nat) : Int) < ((2 ^ k : Nat) : Int) := by push_cast; omega
      exact_mod_cast this
    have := (Nat.log2_lt (by assumption)).mpr h2
    omega
theorem we_globalI {w : World} {k : Nat} {env : Env} {own : Own} {x : Str} {pos} {i : Int} {t : Tok} {P : V → Own → Prop} (h : P (V.int i) own) (hv : nsIn (Mine.K w.params) mainGlobals x = some (some (.int i t))) (hG : env.globals = mainGlobals := by rfl)
    (hk : env.scope.kind = .function := by rfl) (hl : env.kindOf x = some .globalImplicit := by rfl) (hd : (x == ("__debug__" : Str)) = false := by decide) : WE w k env (.Name x pos) own P :=
  we_global h hv (fun _ => VR.int_iff.mpr ⟨_, rfl⟩) hG hk hl hd
theorem wc_div2n1n {w : World} {a b : Int} {n : Nat} (hb : 0 < b) (hb2 : b < 2 ^ 30) (ha : Builtin.Int.intBits a ≤ 64) :
    WC w 20 (.ref 21) [.int a, .int b, .int n] [] fun v o => v = .tup [.int (a.fdiv b), .int (a.fmod b)] ∧ o = [] := by
  refine wc_def (k := 18) (names := ["a", "b", "n"]) rfl rfl rfl (bind3 fun _ _ _ => rfl) rfl (by decide) (by decide) (fun L => Wg.abs fun C fin => ?_)
  · walk_at "n"
    refine we_bit_length ?_
    walk_at "n"
    refine ⟨_, rfl, ?_⟩
    walk_at "n"
    refine' we_globalI (i := 4000) ?_ ?hv ?hG ?hk ?hl ?hd
    case hG => exact rfl
    case hk => exact rfl
    case hl => exact rfl
    case hd => decide
    case hv => exact rfl
    walk_at "n"
    refine if_T (decide_eq_true (by omega)) ?_
    walk_at "n"
    refine wc_divmod ?_ (by omega) (by omega)
    walk_at "n"
    exact fin _ _ ⟨_, _, rfl, rfl, rfl⟩

end

-- B9
set_option maxRecDepth 100000
set_option maxHeartbeats 1000000
section
noncomputable def hv (n : Nat) (l : List Int) : Int := l.foldl (fun acc d => acc * 2 ^ n + d) 0
theorem hv_snoc (n : Nat) (l : List Int) (d : Int) : hv n (l ++ [d]) = hv n l * 2 ^ n + d := by simp [hv]
theorem hv_val (n : Nat) : ∀ (l : List Int), hv n l.reverse = val n l
  | [] => rfl
  | d :: r => by rw [List.reverse_cons, hv_snoc, hv_val n r, val, Int.mul_comm, Int.add_comm]
theorem take_snoc {l : List Int} {i : Nat} {d : Int} (h : l[i]? = some d) : l.take (i + 1) = l.take i ++ [d] := by
  obtain ⟨q, rfl⟩ := List.getElem?_eq_some_iff.mp h
  exact List.take_succ_eq_append_getElem q
theorem fdiv_uniq {a b q r : Int} (hb : 0 < b) (e : a = q * b + r) (h0 : 0 ≤ r) (h1 : r < b) : q = a.fdiv b ∧ r = a.fmod b := by
  have h2 : a.fdiv b = a / b := Int.fdiv_eq_ediv_of_nonneg _ (Int.le_of_lt hb)
  have h3 : a.fmod b = a % b := Int.fmod_eq_emod_of_nonneg _ (Int.le_of_lt hb)
  rw [h2, h3, e]
  constructor
  · rw [Int.add_comm, Int.add_mul_ediv_right _ _ (by omega), Int.ediv_eq_zero_of_lt h0 h1]; omega
  · rw [Int.add_comm, Int.add_mul_emod_self_right, Int.emod_eq_of_lt h0 h1]
theorem bits_pos {a : Int} (h : 0 < a) : 1 ≤ Builtin.Int.intBits a := by
  unfold Builtin.Int.intBits
  rw [if_neg (by simp; omega)]; omega
theorem digs_facts {a b : Int} (ha : 0 ≤ a) (ha2 : a < 2 ^ 20) (hb : 0 < b) (hb2 : b < 2 ^ 16) : ∃ (n : Nat) (ds : List Int), Builtin.Int.intBits b = n ∧ toDigs n a = ds ∧ 1 ≤ n ∧ n ≤ 64 ∧ (2 : Int) ^ n ≤ 2 ^ 16 ∧ ds.length ≤ 20 ∧ val n ds = a ∧ ∀ d ∈ ds, 0 ≤ d ∧ d ≤ a := by
  have hn16 : Builtin.Int.intBits b ≤ 16 := intBits_small (Int.le_of_lt hb) hb2
  have hn1 := bits_pos hb
  obtain ⟨D, -, hD, hT, hD1, -⟩ := bits_div hn1 (intBits_small ha ha2)
  refine ⟨_, _, rfl, hT, hn1, by omega, ?_, ?_⟩
  · have := Nat.pow_le_pow_right (show 1 ≤ 2 from by decide) hn16
    exact_mod_cast this
  · by_cases h0 : a = 0
    · rw [if_pos h0, h0]
      exact ⟨Nat.zero_le _, rfl, fun d hd => by cases hd⟩
    · rw [if_neg h0, digs_length _ _ _ _ (hD1 h0) (Nat.le_refl _)]
      exact ⟨hD, digs_val _ _ _ _ (hD1 h0) (Nat.le_refl _), digs_bound _ _ _ _ ha⟩
noncomputable def DInv (n : Nat) (ds : List Int) (b : Int) (i : Nat) (qs : List Int) (r : Int) : Prop :=
  qs.length = i ∧ hv n (ds.reverse.take i) = val n qs.reverse * b + r ∧ 0 ≤ r ∧ r < b ∧ ∀ q ∈ qs, 0 ≤ q
theorem dinv_step {n i : Nat} {ds qs : List Int} {b r d : Int} (hb : 0 < b) (h : DInv n ds b i qs r) (hd : ds.reverse[i]? = some d) (d0 : 0 ≤ d) : DInv n ds b (i + 1) (qs ++ [(r * 2 ^ n + d).fdiv b]) ((r * 2 ^ n + d).fmod b) := by
  obtain ⟨hqs, hinv, r0, r1, hq⟩ := h
  have hp := pow2_pos n
  have hrB : 0 ≤ r * 2 ^ n := Int.mul_nonneg r0 (Int.le_of_lt hp)
  have hf : (r * 2 ^ n + d).fdiv b * b + (r * 2 ^ n + d).fmod b = r * 2 ^ n + d := by
    rw [Int.mul_comm]; exact Int.mul_fdiv_add_fmod _ _
  have hm0 : (r * 2 ^ n + d).fmod b = (r * 2 ^ n + d) % b := Int.fmod_eq_emod_of_nonneg _ (Int.le_of_lt hb)
  refine ⟨by rw [List.length_append, hqs]; rfl, ?_, ?_, ?_, ?_⟩
  · rw [take_snoc hd, hv_snoc, hinv, List.reverse_append]
    show _ = ((r * 2 ^ n + d).fdiv b + 2 ^ n * val n qs.reverse) * b + _
    rw [Int.add_mul, Int.add_mul, Int.mul_assoc, Int.mul_comm (2 ^ n) (val n qs.reverse), Int.mul_assoc, Int.mul_comm b (2 ^ n)]
    omega
  · rw [hm0]; exact Int.emod_nonneg _ (by omega)
  · rw [hm0]; exact Int.emod_lt_of_pos _ hb
  · intro q hq'
    rcases List.mem_append.mp hq' with h | h
    · exact hq q h
    · rw [List.mem_singleton.mp h, Int.fdiv_eq_ediv_of_nonneg _ (Int.le_of_lt hb)]
      exact Int.ediv_nonneg (by omega) (Int.le_of_lt hb)
theorem dinv_end {n : Nat} {ds qs : List Int} {a b r : Int} (ha : 0 ≤ a) (ha2 : a < 2 ^ 20) (hb : 0 < b) (hv : val n ds = a) (h : DInv n ds b (intsV ds).length qs r) : val n qs.reverse = a.fdiv b ∧ r = a.fmod b ∧ val n qs.reverse < 2 ^ 60 ∧ qs.length = ds.length := by
  obtain ⟨hqs, hinv, r0, r1, hq⟩ := h
  rw [List.length_map] at hqs hinv
  rw [show ds.length = ds.reverse.length from by simp, List.take_length, hv_val, hv] at hinv
  obtain ⟨e1, e2⟩ := fdiv_uniq hb hinv r0 r1
  refine ⟨e1, e2, ?_, hqs⟩
  rw [e1]
  exact Int.lt_of_le_of_lt (by rw [Int.fdiv_eq_ediv_of_nonneg _ (Int.le_of_lt hb)]; exact Int.ediv_le_self _ ha) (by omega)
theorem dinv_num {n : Nat} {a b r d : Int} (ha2 : a < 2 ^ 20) (hB : (2 : Int) ^ n ≤ 2 ^ 16) (hb2 : b < 2 ^ 16) (r0 : 0 ≤ r) (r1 : r < b) (d0 : 0 ≤ d) (d1 : d ≤ a) : r < 2 ^ 63 ∧ Builtin.Int.intBits (r * 2 ^ n + d) ≤ 64 := by
  have hp := pow2_pos n
  have hrB : 0 ≤ r * 2 ^ n := Int.mul_nonneg r0 (Int.le_of_lt hp)
  have hrB2 : r * 2 ^ n ≤ 2 ^ 16 * 2 ^ 16 := Int.le_trans (Int.mul_le_mul_of_nonneg_right (show r ≤ 2 ^ 16 from by omega) (Int.le_of_lt hp)) (Int.mul_le_mul_of_nonneg_left hB (by decide))
  exact ⟨by omega, intBits_le_64 (by omega) (by omega)⟩
theorem rev_get {ds : List Int} {i : Nat} {v : V} (h : (intsV ds).reverse[i]? = some v) : ∃ d, ds.reverse[i]? = some d ∧ v = .int d ∧ d ∈ ds ∧ i < ds.length := by
  rw [← List.map_reverse, List.getElem?_map] at h
  cases e : ds.reverse[i]? with
  | none => rw [e] at h; cases h
  | some d =>
    rw [e] at h; cases h
    have := get_lt e
    rw [List.length_reverse] at this
    exact ⟨d, rfl, rfl, by simpa using List.mem_of_getElem? e, this⟩
theorem exI_at {a : Addr} {qs : List Int} (d : Int) {o own' : Own} {Q : Own → Prop} (m : At a (.list (intsV qs)) (.list (intsV (qs ++ [d]))) o own') (hl : qs.length < 1000000) (h : Q own') : ∃ vs own', At a (.list vs) (.list (vs ++ [V.int d])) o own' ∧ vs.length < 16777216 ∧ Q own' :=
  ex_at m (by simp) (by rw [List.length_map]; omega) h

theorem wc_divmod_pos {w : World} {a b : Int} (ha : 0 ≤ a) (ha2 : a < 2 ^ 20) (hb : 0 < b) (hb2 : b < 2 ^ 16) :
    WC w 500 (.ref 49) [.int a, .int b] [(37, T37), (30, T30)] fun v o => v = .tup [.int (a.fdiv b), .int (a.fmod b)] ∧ o = [(37, T37), (30, T30)] := by
  obtain ⟨n, ds, en, ed, n1, n2, hB, hlen, hval, hds⟩ := digs_facts ha ha2 hb hb2
  have hc := wc_int2digits (w := w) (a := a) (n := n) ha (Int.lt_trans ha2 (by decide)) n1 n2 (intBits_small ha ha2)
  rw [ed] at hc
  refine wc_def (k := 498) (names := ["a", "b"]) rfl rfl rfl (bind2 fun _ _ => rfl) rfl (by decide) (by decide) (fun L => Wg.abs fun C fin => ?_)
  refine Wg.dropPost ?_
  walk_at "n"
  refine we_bit_length ?_
  walk_at "n"
  refine ⟨_, rfl, ?_⟩
  rw [en]
  walk_at "n"
  refine Wg.use [false, false, true] hc (post_ex fun l => ?_)
  walk_at "n"
  refine cLst_i (by decide) fun qa => ?_
  walk_at "n"
  refine ws_For_rev (l := l) (vs := intsV ds) (fun i o => ∃ qs r ks, o = [(L, O.frame ks), (37, T37), (30, T30), (l, .list (intsV ds)), (qa, .list (intsV qs))] ∧ DInv n ds b i qs r ∧
      Lk ks "b" (.int b) ∧ Lk ks "n" (.int n) ∧ Lk ks "r" (.int r) ∧ Lk ks "q_digits" (.ref qa)) ?_ ?_ ?_ ?_
  · walk_at "n"
    refine wc_reversed (by walk_at "mem") fun rr => ?_
    exact ⟨rr, [(L, _), (37, _), (30, _), (l, _), (qa, _)], rfl, rfl, [], 0, _, rfl, ⟨rfl, by simp [hv, val], Int.le_refl _, hb, fun q h => by cases h⟩, by walk_at "lk", by walk_at "lk", by walk_at "lk", by walk_at "lk"⟩
  · rintro i o ⟨qs, r, ks, rfl, _⟩
    walk_at "mem"
  · intro i v o hv' hI
    refine Wg.abs fun D don => ?_
    obtain ⟨d, hd, rfl, hmem, hi⟩ := rev_get hv'
    obtain ⟨qs, r, ks, rfl, hinv, k1, k2, k3, k4⟩ := hI
    obtain ⟨d0, d1⟩ := hds d hmem
    have hst := dinv_step hb hinv hd d0
    obtain ⟨hql, -, r0, r1, -⟩ := hinv
    obtain ⟨q1, q2⟩ := dinv_num ha2 hB hb2 r0 r1 d0 d1
    clear hval hds hc hv' hd hmem fin d0 d1 r1
    walk_at "n"
    refine don _ _ (Wg.abs fun D2 don2 => ?_)
    clear don
    walk_at "n"
    refine w2_shlE (s := n) ?_ rfl (by omega) r0 q1
    walk_at "n"
    refine Wg.use [false, false, false, false, false] (wc_div2n1n (w := w) (a := r * 2 ^ n + d) (b := b) (n := n) hb (by omega) q2) (post_eq ?_)
    walk_at "n"
    refine xe_append ?_
    walk_at "n"
    refine ex_mem (by walk_at "mem") ?_
    walk_at "n"
    refine exI_at _ (by walk_at "at") (by omega) ?_
    walk_at "n"
    exact don2 _ _ (loopP_next ⟨_, _, _, rfl, hst, by walk_at "lk", by walk_at "lk", by walk_at "lk", by walk_at "lk"⟩)
  · rintro o ⟨qs, r, ks, rfl, hinv, k1, k2, k3, k4⟩
    obtain ⟨e1, e2, e3, e4⟩ := dinv_end ha ha2 hb hval hinv
    obtain ⟨-, -, -, -, hq⟩ := hinv
    have hc2 := wc_digits2int (w := w) (q := qa) (ds := qs.reverse) (n := n) n1 n2 (by rw [List.length_reverse, e4]; exact hlen) (fun d hd => hq d (by simpa using hd)) e3
    have hrev : (intsV qs).reverse = intsV qs.reverse := by simp
    rw [e1] at hc2
    subst e2
    clear hc hds hval e3 hq e1
    walk_at "n"
    refine we_reverse ?_
    walk_at "n"
    refine ⟨qa, _, _, rfl, by walk_at "at", by rw [List.length_map]; omega, ?_⟩
    rw [hrev]
    walk_at "n"
    refine Wg.use [false, true, false, false, true] hc2 (post_eq ?_)
    walk_at "n"
    refine cTup_i (show 2 < 16777216 from by decide) ?_
    walk_at "n"
    exact ⟨[(L, _), (37, _), (30, _)], by walk_at "sl", fin _ _ ⟨_, _, rfl, rfl, rfl⟩⟩

theorem neg_divmod {a b : Int} (hb : 0 < b) : -(-a - 1).fdiv b - 1 = a.fdiv b ∧ b + (-(-a - 1).fmod b - 1) = a.fmod b := by
  have hf : (-a - 1).fdiv b * b + (-a - 1).fmod b = -a - 1 := by
    rw [Int.mul_comm]; exact Int.mul_fdiv_add_fmod _ _
  have hm0 : (-a - 1).fmod b = (-a - 1) % b := Int.fmod_eq_emod_of_nonneg _ (Int.le_of_lt hb)
  have h0 := Int.emod_nonneg (-a - 1) (show b ≠ 0 from by omega)
  have h1 := Int.emod_lt_of_pos (-a - 1) hb
  have e := fdiv_uniq (a := a) (b := b) (q := -(-a - 1).fdiv b - 1) (r := b + (-(-a - 1).fmod b - 1)) hb (by rw [Int.sub_mul, Int.neg_mul, Int.one_mul]; omega) (by omega) (by omega)
  exact e
theorem lt0 {a : Int} (h : 0 ≤ a) : decide (a < 0) = false := decide_eq_false (Int.not_lt.mpr h)
theorem eq0 {a : Int} (h : 0 < a) : (a == 0) = false := beq_eq_false_iff_ne.mpr (by omega)
theorem wc_int_divmod0 {w : World} {a b : Int} (ha : 0 ≤ a) (ha2 : a < 2 ^ 20) (hb : 0 < b) (hb2 : b < 2 ^ 16) :
    WC w 520 (.ref 56) [.int a, .int b] [(37, T37), (30, T30)] fun v o => v = .tup [.int (a.fdiv b), .int (a.fmod b)] ∧ o = [(37, T37), (30, T30)] := by
  refine wc_def (k := 518) (names := ["a", "b"]) rfl rfl rfl (bind2 fun _ _ => rfl) rfl (by decide) (by decide) (fun L => Wg.abs fun C fin => ?_)
  walk_at "n"
  refine if_F (eq0 hb) ?_
  walk_at "n"
  refine if_F (lt0 (Int.le_of_lt hb)) ?_
  walk_at "n"
  refine if_F (lt0 ha) ?_
  walk_at "n"
  refine Wg.use [false, true, true] (wc_divmod_pos (w := w) ha ha2 hb hb2) (post_eq ?_)
  walk_at "n"
  exact fin _ _ ⟨_, _, rfl, rfl, rfl⟩
theorem wc_int_divmod {w : World} {a b : Int} (ha1 : -2 ^ 20 ≤ a) (ha2 : a < 2 ^ 20) (hb : 0 < b) (hb2 : b < 2 ^ 16) :
    WC w 540 (.ref 56) [.int a, .int b] [(37, T37), (30, T30)] fun v o => v = .tup [.int (a.fdiv b), .int (a.fmod b)] ∧ o = [(37, T37), (30, T30)] := by
  by_cases ha : 0 ≤ a
  · exact (wc_int_divmod0 ha ha2 hb hb2).le
  · obtain ⟨e1, e2⟩ := neg_divmod (a := a) hb
    rw [← e1, ← e2]
    have hc := wc_int_divmod0 (w := w) (a := -a - 1) (b := b) (by omega) (by omega) hb hb2
    refine wc_def (k := 538) (names := ["a", "b"]) rfl rfl rfl (bind2 fun _ _ => rfl) rfl (by decide) (by decide) (fun L => Wg.abs fun C fin => ?_)
    walk_at "n"
    refine if_F (eq0 hb) ?_
    walk_at "n"
    refine if_F (lt0 (Int.le_of_lt hb)) ?_
    walk_at "n"
    refine if_T (decide_eq_true (Int.not_le.mp ha)) ?_
    walk_at "n"
    refine Wg.use [false, true, true] hc (post_eq ?_)
    walk_at "n"
    refine cTup_i (show 2 < 16777216 from by decide) ?_
    walk_at "n"
    exact fin _ _ ⟨_, _, rfl, rfl, rfl⟩

end

-- B10
set_option maxRecDepth 100000
set_option maxHeartbeats 1000000
section
theorem w1_truthy_bool {w : World} {k : Nat} {own : Own} {b : Bool} {P : Bool → Own → Prop} (h : P b own) : W1 w k (.bool b) truthy BR own P := by
  intro A g s rest Q E c ok S r K
  rw [VR.raw_iff] at r; subst r
  exact wpAny_truthy_bool (K b s.heap s.toks g b _ h S (StaysIn.refl _) rfl)
theorem wc_count_calls {w : World} {kvs : List (Int × Int)} :
    WC w 20 (.ref 140) [.dct kvs] [] fun v o => v = .int (kvs.foldl (fun a p => a + p.2) 0) ∧ o = [] := by
  refine wc_def (k := 18) (names := ["callers"]) rfl rfl rfl (bind1 fun _ => rfl) rfl (by decide) (by decide) (fun L => Wg.abs fun C fin => ?_)
  refine Wg.dropPost ?_
  walk_at "n"
  refine ws_For_values (kvs := kvs) (fun i o => ∃ ks, o = [(L, O.frame ks)] ∧ Lk ks "nc" (.int ((kvs.take i).foldl (fun a p => a + p.2) 0))) ?_ ?_ ?_
  · refine we_values ?_
    walk_at "n"
    exact ⟨kvs, rfl, fun r => ⟨r, [(L, _)], rfl, rfl, _, rfl, by walk_at "lk"⟩⟩
  · intro i p o hp hI
    refine Wg.abs fun D don => ?_
    obtain ⟨ks, rfl, k1⟩ := hI
    walk_at "n"
    refine don _ _ (Wg.abs fun D2 don2 => ?_)
    clear don
    walk_at "n"
    refine wl_local ?_ (by walk_at "lk")
    walk_at "n"
    refine w2_iadd ?_
    walk_at "n"
    refine don2 _ _ (loopP_next ⟨_, rfl, ?_⟩)
    obtain ⟨q, rfl⟩ := List.getElem?_eq_some_iff.mp hp
    rw [List.take_succ_eq_append_getElem q, List.foldl_append]
    walk_at "lk"
  · rintro o ⟨ks, rfl, k1⟩
    rw [List.take_length] at k1
    walk_at "n"
    exact ⟨[(L, _)], by walk_at "sl", fin _ _ ⟨_, _, rfl, rfl, rfl⟩⟩

noncomputable abbrev mapV (l : List (Int × Int)) : List (Int × V) := l.map fun p => (p.1, V.int p.2)
theorem storeD_map (l : List (Int × Int)) (i v : Int) : storeD (mapV l) i (V.int v) = mapV (storeD l i v) := by
  unfold storeD
  have e : ((mapV l).any fun p => p.1 = i) = (l.any fun p => p.1 = i) := by rw [List.any_map]; rfl
  rw [e]
  split
  · simp only [List.map_map]
    apply List.map_congr_left
    intro p _
    simp only [Function.comp]
    split <;> rfl
  · simp
theorem lookD_map (l : List (Int × Int)) (i : Int) : lookD (mapV l) i = (lookD l i).map V.int := by
  unfold lookD
  rw [List.find?_map]
  cases h : l.find? ((fun p : Int × V => decide (p.1 = i)) ∘ fun p => (p.1, V.int p.2)) with
  | none =>
    have h' : l.find? (fun p => decide (p.1 = i)) = none := h
    rw [h']; rfl
  | some q =>
    have h' : l.find? (fun p => decide (p.1 = i)) = some q := h
    rw [h']; rfl
theorem storeD_len {β : Type} (l : List (Int × β)) (i : Int) (v : β) : (storeD l i v).length ≤ l.length + 1 := by
  unfold storeD
  split <;> simp
theorem look_any {β : Type} {l : List (Int × β)} {i : Int} : (l.any fun p => p.1 = i) = (lookD l i).isSome := by
  unfold lookD
  induction l with
  | nil => rfl
  | cons p r ih =>
    rw [List.any_cons, List.find?_cons]
    by_cases h : p.1 = i
    · simp [h]
    · simp only [h, decide_false, Bool.false_or]; exact ih
noncomputable def addT (t : List (Int × Int)) : List (Int × Int) := t.foldl (fun acc p => storeD acc p.1 p.2) []
noncomputable def addS (acc : List (Int × Int)) (p : Int × Int) : List (Int × Int) := match lookD acc p.1 with
  | some c => storeD acc p.1 (c + p.2)
  | none => storeD acc p.1 p.2
noncomputable def addC (t s : List (Int × Int)) : List (Int × Int) := s.foldl addS (addT t)
theorem fold_len {f : List (Int × Int) → Int × Int → List (Int × Int)} (h : ∀ a p, (f a p).length ≤ a.length + 1) : ∀ (l : List (Int × Int)) (a : List (Int × Int)), (l.foldl f a).length ≤ a.length + l.length
  | [], a => by simp
  | p :: r, a => by
    rw [List.foldl_cons]
    have := fold_len h r (f a p)
    have := h a p
    simp only [List.length_cons]; omega
theorem addS_len (a : List (Int × Int)) (p : Int × Int) : (addS a p).length ≤ a.length + 1 := by
  unfold addS
  split <;> exact storeD_len _ _ _
theorem foldl_snoc {α β : Type} (f : β → α → β) (b : β) {l : List α} {i : Nat} {p : α} (h : l[i]? = some p) : (l.take (i + 1)).foldl f b = f ((l.take i).foldl f b) p := by
  obtain ⟨q, rfl⟩ := List.getElem?_eq_some_iff.mp h
  rw [List.take_succ_eq_append_getElem q, List.foldl_append]; rfl

theorem w3_dictM {w : World} {k : Nat} {own own' : Own} {a : Addr} {kvs : List (Int × Int)} {i v : Int} {P : Unit → Own → Prop} (h : P () own') (m : At a (.dict (mapV kvs)) (.dict (mapV (storeD kvs i v))) own own') (hn : kvs.length < 1000000) : W3 w k (.ref a) (.int i) (.int v) setItem UR own P :=
  w3_dict h (by rw [storeD_map]; exact m) (by rw [List.length_map]; exact Nat.lt_trans hn (by decide))
theorem addT_len (t : List (Int × Int)) : (addT t).length ≤ t.length := by
  have := fold_len (f := fun acc p => storeD acc p.1 p.2) (fun a p => storeD_len _ _ _) t []
  simpa [addT] using this
theorem addT_take (t : List (Int × Int)) (i : Nat) : (addT (t.take i)).length ≤ t.length := Nat.le_trans (addT_len _) (by rw [List.length_take]; omega)
theorem addS_take (t s : List (Int × Int)) (i : Nat) : ((s.take i).foldl addS (addT t)).length ≤ t.length + s.length := by
  have h1 := fold_len addS_len (s.take i) (addT t)
  have h2 := addT_len t
  have h3 : (s.take i).length ≤ s.length := by rw [List.length_take]; omega
  omega
theorem look_in {acc : List (Int × Int)} {i : Int} : ((mapV acc).any fun p => p.1 = i) = (lookD acc i).isSome := by
  rw [look_any, lookD_map]; cases lookD acc i <;> rfl

theorem wc_add_callers {w : World} {t s : List (Int × Int)} (ht : t.length ≤ 1000) (hs : s.length ≤ 1000) :
    WC w 30 (.ref 133) [.dct t, .dct s] [] fun v o => ∃ a, v = .ref a ∧ o = [(a, .dict (mapV (addC t s)))] := by
  refine wc_def (k := 28) (names := ["target", "source"]) rfl rfl rfl (bind2 fun _ _ => rfl) rfl (by decide) (by decide) (fun L => Wg.abs fun C fin => ?_)
  refine Wg.dropPost ?_
  walk_at "n"
  refine' fun a => ?_
  walk_at "n"
  refine ws_For_items (kvs := t) (fun i o => ∃ ks, o = [(L, O.frame ks), (a, .dict (mapV (addT (t.take i))))] ∧ Lk ks "new_callers" (.ref a) ∧ Lk ks "source" (.dct s)) ?_ ?_ ?_
  · refine we_items ?_
    walk_at "n"
    exact ⟨t, rfl, fun r => ⟨r, [(L, _), (a, _)], rfl, rfl, _, rfl, by walk_at "lk", by walk_at "lk"⟩⟩
  · intro i p o hp hI
    refine Wg.abs fun D don => ?_
    obtain ⟨ks, rfl, k1, k2⟩ := hI
    have hl : (addT (t.take i)).length < 1000000 := Nat.lt_of_le_of_lt (addT_take t i) (by omega)
    have e : addT (t.take (i + 1)) = storeD (addT (t.take i)) p.1 p.2 := foldl_snoc _ _ hp
    walk_at "n"
    refine don _ _ (Wg.abs fun D2 don2 => ?_)
    clear don
    rw [e] at don2
    generalize addT (t.take i) = acc at *
    walk_at "n"
    refine' w3_dictM ?_ ?hat hl
    case hat => walk_at "at"
    walk_at "n"
    exact don2 _ _ (loopP_next ⟨_, rfl, by walk_at "lk", by walk_at "lk"⟩)
  · rintro o ⟨ks, rfl, k1, k2⟩
    rw [List.take_length]
    walk_at "n"
    refine ws_For_items (kvs := s) (fun i o => ∃ ks, o = [(L, O.frame ks), (a, .dict (mapV ((s.take i).foldl addS (addT t))))] ∧ Lk ks "new_callers" (.ref a)) ?_ ?_ ?_
    · refine we_items ?_
      walk_at "n"
      exact ⟨s, rfl, fun r => ⟨r, [(L, _), (a, _)], rfl, rfl, _, rfl, by walk_at "lk"⟩⟩
    · intro i p o hp hI
      refine Wg.abs fun D don => ?_
      obtain ⟨ks, rfl, k1⟩ := hI
      have hl : ((s.take i).foldl addS (addT t)).length < 1000000 := Nat.lt_of_le_of_lt (addS_take t s i) (by omega)
      have e := foldl_snoc addS (addT t) hp
      walk_at "n"
      refine don _ _ (Wg.abs fun D2 don2 => ?_)
      clear don
      rw [e] at don2
      generalize (s.take i).foldl addS (addT t) = acc at *
      walk_at "n"
      refine w2_in ?_ (by walk_at "mem")
      walk_at "n"
      cases hk : lookD acc p.1 with
      | none =>
        refine if_F (by rw [look_in, hk]; rfl) ?_
        rw [addS, hk] at don2
        walk_at "n"
        refine' w3_dictM ?_ ?hat hl
        case hat => walk_at "at"
        walk_at "n"
        exact don2 _ _ (loopP_next ⟨_, rfl, by walk_at "lk"⟩)
      | some c =>
        refine if_T (by rw [look_in, hk]; rfl) ?_
        rw [addS, hk] at don2
        walk_at "n"
        refine wb_value ?_
        walk_at "n"
        refine wc_isi ?_
        refine w1_truthy_bool ?_
        walk_at "n"
        refine ws_AugAssign_Sub ?_
        walk_at "n"
        refine w2_dictget (v := .int c) ?_ (by walk_at "mem") (by rw [lookD_map, hk]; rfl)
        walk_at "n"
        refine w2_iadd ?_
        refine' w3_dictM ?_ ?hat hl
        case hat => walk_at "at"
        walk_at "n"
        exact don2 _ _ (loopP_next ⟨_, rfl, by walk_at "lk"⟩)
    · rintro o ⟨ks, rfl, k1⟩
      rw [List.take_length]
      walk_at "n"
      exact ⟨[(L, _), (a, _)], by walk_at "sl", fin _ _ ⟨_, _, rfl, _, rfl, rfl⟩⟩

end

-- B11
set_option maxRecDepth 100000
set_option maxHeartbeats 1000000
section
theorem Wg.freezeV {w : World} {k : Nat} {own : Own} {γ : Type} {In : Heap → γ → Prop} {t : γ → Sem Value} {P : V → Own → Prop} (h : Wg w k In t (VR w) own fun v o => ∃ a kvs pre post, v = .ref a ∧ o = pre ++ (a, .dict (kvs.map fun p => (p.1, V.int p.2))) :: post ∧ P (.dct kvs) (pre ++ post)) : Wg w k In t (VR w) own P := by
  intro A g s rest Q E c ok S i K
  refine h A g s rest _ _ c ok S i fun v h1 tk1 g1 v1 o1 h S1 l1 r1 => ?_
  obtain ⟨a, kvs, pre, post, rfl, rfl, hP⟩ := h
  rw [VR.raw_iff] at r1
  subst r1
  have S1' : Sim w (pre ++ (a, .dict (kvs.map fun p => (p.1, V.int p.2))) :: (post ++ rest)) h1 g1 := by simpa using S1
  obtain ⟨g', S', l, r⟩ := S1'.freezeD
  exact K _ h1 tk1 g' (.dct kvs) _ hP (by simpa using S') (StaysIn.trans l1 l) r
noncomputable abbrev entV (x y p s : Int) (d : List (Int × Int)) : V := .tup [.int x, .int y, .int p, .int s, .dct d]
theorem wc_add_func_stats {w : World} {x y p s x' y' p' s' : Int} {d d' : List (Int × Int)} (ht : d.length ≤ 1000) (hs : d'.length ≤ 1000) :
    WC w 50 (.ref 126) [entV x y p s d, entV x' y' p' s' d'] [] fun v o => v = entV (x' + x) (y' + y) (p' + p) (s' + s) (addC d d') ∧ o = [] := by
  refine wc_def (k := 48) (names := ["target", "source"]) rfl rfl rfl (bind2 fun _ _ => rfl) rfl (by decide) (by decide) (fun L => Wg.abs fun C fin => ?_)
  walk_at "n"
  refine Wg.freezeV ?_
  walk_at "n"
  refine Wg.use [false] (wc_add_callers (w := w) ht hs) (post_ex fun a => ?_)
  walk_at "n"
  refine ⟨a, addC d d', [(L, _)], [], rfl, rfl, ?_⟩
  walk_at "n"
  refine cTup_i (show 5 < 16777216 from by decide) ?_
  walk_at "n"
  exact fin _ _ ⟨_, _, rfl, rfl, rfl⟩
noncomputable def lowOf (n q : Int) (x : Int) : Int := -(q * x).fdiv n
noncomputable def ptsG (low : Int → Option Int) (bound : Int) : Nat → List (List Int) → List (List Int) → Option (List (List Int))
  | 0, _, _ => none
  | f + 1, h, told =>
    match h with
    | [g, x, y, fi] :: tl =>
      if g ≤ bound then
        if 1000 < h.length ∨ 1000 < told.length ∨ x < 0 ∨ 100 < x then none else
        (fun h1 : List (List Int) => if fi = 1 then (low (x + 1)).bind fun l => ptsG low bound f (siftdown (h1 ++ [[2 * (x + 1) + l, x + 1, l, 1]]) 0 h1.length) (told ++ [[x, y]])
          else ptsG low bound f h1 (told ++ [[x, y]])) (siftup ([g + 1, x, y + 1, 0] :: tl) 0)
      else some told
    | _ => none
noncomputable def ptsLoop (low : Int → Int) : Int → Nat → List (List Int) → List (List Int) → Option (List (List Int)) := ptsG fun x => some (low x)
theorem ptsG_eq {low : Int → Option Int} {bound : Int} {f : Nat} {g x y fi : Int} {tl told : List (List Int)} : ptsG low bound (f + 1) ([g, x, y, fi] :: tl) told =
    (if g ≤ bound then if 1000 < ([g, x, y, fi] :: tl).length ∨ 1000 < told.length ∨ x < 0 ∨ 100 < x then none else
      (fun h1 : List (List Int) => if fi = 1 then (low (x + 1)).bind fun l => ptsG low bound f (siftdown (h1 ++ [[2 * (x + 1) + l, x + 1, l, 1]]) 0 h1.length) (told ++ [[x, y]])
          else ptsG low bound f h1 (told ++ [[x, y]])) (siftup ([g + 1, x, y + 1, 0] :: tl) 0)
      else some told) := rfl
theorem pts_inv {low : Int → Option Int} {bound : Int} {f : Nat} {h told r : List (List Int)} (e : ptsG low bound f h told = some r) : ∃ m g x y fi tl, f = m + 1 ∧ h = [g, x, y, fi] :: tl := by
  obtain _ | m := f
  · cases e
  obtain _ | ⟨a, tl⟩ := h
  · cases e
  obtain _ | ⟨g, _ | ⟨x, _ | ⟨y, _ | ⟨fi, _ | ⟨_, _⟩⟩⟩⟩⟩ := a
  · cases e
  · cases e
  · cases e
  · cases e
  · exact ⟨m, g, x, y, fi, tl, rfl, rfl⟩
  · cases e
theorem pts_cases {low : Int → Int} {bound : Int} {m : Nat} {hh told pts : List (List Int)} (h : ptsLoop low bound m hh told = some pts) : ∃ m' g x y fi tl, m = m' + 1 ∧ hh = [g, x, y, fi] :: tl ∧
    ((¬ g ≤ bound ∧ told = pts) ∨ (g ≤ bound ∧ tl.length < 900000 ∧ told.length < 1000000 ∧ 0 ≤ x ∧ x ≤ 100 ∧ ∃ h1, siftup ([g + 1, x, y + 1, 0] :: tl) 0 = h1 ∧ h1.length < 900000 ∧
      (fi = 1 → ptsLoop low bound m' (siftdown (h1 ++ [[2 * (x + 1) + low (x + 1), x + 1, low (x + 1), 1]]) 0 h1.length) (told ++ [[x, y]]) = some pts) ∧ (¬ fi = 1 → ptsLoop low bound m' h1 (told ++ [[x, y]]) = some pts))) := by
  obtain ⟨m, g, x, y, fi, tl, rfl, rfl⟩ := pts_inv h
  refine ⟨m, g, x, y, fi, tl, rfl, rfl, ?_⟩
  replace h := ptsG_eq.symm.trans h
  by_cases hg : g ≤ bound
  · rw [if_pos hg] at h
    by_cases hbad : 1000 < ([g, x, y, fi] :: tl).length ∨ 1000 < told.length ∨ x < 0 ∨ 100 < x
    · rw [if_pos hbad] at h; cases h
    · rw [if_neg hbad] at h
      obtain ⟨b1, hbad⟩ := not_or.mp hbad
      obtain ⟨b2, hbad⟩ := not_or.mp hbad
      obtain ⟨b3, b4⟩ := not_or.mp hbad
      have b1 := Nat.not_lt.mp b1
      exact .inr ⟨hg, Nat.lt_of_le_of_lt (Nat.le_of_succ_le b1) (by decide), Nat.lt_of_le_of_lt (Nat.not_lt.mp b2) (by decide), Int.not_lt.mp b3, Int.not_lt.mp b4, _, rfl, (siftup_length ([g + 1, x, y + 1, 0] :: tl) _ (Nat.zero_lt_succ _)).symm ▸ Nat.lt_of_le_of_lt b1 (by decide),
        fun e => (if_pos e).symm.trans h, fun e => (if_neg e).symm.trans h⟩
  · rw [if_neg hg] at h
    cases h
    exact .inl ⟨hg, rfl⟩
theorem qx_facts {n q x : Int} (hq0 : 0 ≤ q) (hq : q < 1000) (hx0 : 0 ≤ x) (hx1 : x ≤ 100) : -2 ^ 20 ≤ q * (x + 1) ∧ q * (x + 1) < 2 ^ 20 ∧ q.natAbs < 2 ^ 63 ∧ ∃ dv, (q * (x + 1)).fdiv n = dv ∧ lowOf n q (x + 1) = -dv := by
  have hb0 : 0 ≤ q * (x + 1) := Int.mul_nonneg hq0 (by omega)
  have hb1 : q * (x + 1) ≤ 1000 * 101 := Int.le_trans (Int.mul_le_mul_of_nonneg_right (show q ≤ 1000 from by omega) (by omega)) (Int.mul_le_mul_of_nonneg_left (by omega) (by decide))
  exact ⟨Int.le_trans (by decide) hb0, Int.lt_of_le_of_lt hb1 (by decide), by omega, _, rfl, rfl⟩
section
variable {w : World} {k : Nat} {own : Own}
theorem w2_head {a : Addr} {t : List Int} {xs : List (List Int)} {value slice : Expr} {P : V → Own → Prop} (h : P (tupV t) own) (hm : (a, O.list (heapV (t :: xs))) ∈ own) (hb : xs.length < 900000)
    (hs : ∀ o i, subscripted slice false o i = operate [o, i] (getItem o i) := by intro _ _; with_unfolding_all rfl) : W2 w k (.ref a) (.int 0) (subscriptTail value slice) (VR w) own P :=
  w2_heap (n := 0) h hm rfl (by rw [List.length_cons]; omega) hs
end
theorem wc_law_points {w : World} {n q bound : Int} {pts : List (List Int)} {f : Nat} (hq0 : 0 ≤ q) (hq : q < 1000) (hn0 : 0 < n) (hn : n < 1001) (hp : ptsLoop (lowOf n q) bound f [[1, 0, 1, 1]] [] = some pts) :
    WC w 560 (.ref 147) [.int n, .int q, .int bound] [(37, T37), (30, T30)] fun v o => ∃ l, v = .ref l ∧ o = [(37, T37), (30, T30), (l, .list (heapV pts))] := by
  refine wc_def (k := 558) (names := ["n", "q", "bound"]) rfl rfl rfl (bind3 fun _ _ _ => rfl) rfl (by decide) (by decide) (fun L => Wg.abs fun C fin => ?_)
  refine Wg.dropPost ?_
  walk_at "n"
  refine cTup_i (show 4 < 16777216 from by decide) ?_
  walk_at "n"
  refine cLst_i (show 1 < 16777216 from by decide) fun hp0 => ?_
  walk_at "n"
  refine Wg.use [false, false, false, true] (wc_heapify (w := w) (t := [1, 0, 1, 1])) (post_eq ?_)
  walk_at "n"
  refine cLst_i (show 0 < 16777216 from by decide) fun tl0 => ?_
  walk_at "n"
  refine ws_WhileR (fun m o => ∃ hp told ks, o = [(L, O.frame ks), (37, T37), (30, T30), (hp0, .list (heapV hp)), (tl0, .list (heapV told))] ∧ ptsLoop (lowOf n q) bound m hp told = some pts ∧
      Lk ks "n" (.int n) ∧ Lk ks "q" (.int q) ∧ Lk ks "bound" (.int bound) ∧ Lk ks "heap" (.ref hp0) ∧ Lk ks "told" (.ref tl0))
    (fun o => ∃ hp ks, o = [(L, O.frame ks), (37, T37), (30, T30), (hp0, .list (heapV hp)), (tl0, .list (heapV pts))] ∧ Lk ks "told" (.ref tl0)) ?_ f ⟨[[1, 0, 1, 1]], [], _, rfl, hp, by walk_at "lk", by walk_at "lk", by walk_at "lk", by walk_at "lk", by walk_at "lk"⟩ ?_
  · clear fin hp
    intro m o hI
    refine Wg.abs fun D don => ?_
    obtain ⟨hh, told, ks, rfl, hinv, k1, k2, k3, k4, k5⟩ := hI
    obtain ⟨m, g, x, y, fi, tl, rfl, rfl, hcs⟩ := pts_cases hinv
    clear hinv
    rcases hcs with ⟨hg, rfl⟩ | ⟨hg, hl1, hl2, hx0, hx1, h1, eh1, hl3, hi1, hi2⟩
    · walk_at "n"
      refine w2_list (v := tupV [g, x, y, fi]) ?_ (by walk_at "mem") (Int.le_refl _) rfl (by decide)
      walk_at "n"
      refine w2_tup (v := .int g) ?_ rfl rfl
      walk_at "n"
      exact don _ _ (if_F (decide_eq_false hg) ⟨_, _, rfl, k5⟩)
    · walk_at "n"
      refine w2_head ?_ (by walk_at "mem") hl1
      walk_at "n"
      refine w2_tup (v := .int g) ?_ rfl rfl
      walk_at "n"
      refine don _ _ (if_T (decide_eq_true hg) (Wg.abs fun D2 don2 => ?_))
      clear don hg
      have hrep := wc_heapreplace (w := w) (l := hp0) (a := [g, x, y, fi]) (xs := tl) (t := [g + 1, x, y + 1, 0]) hl1
      rw [eh1] at hrep
      clear eh1
      walk_at "n"
      refine w2_head ?_ (by walk_at "mem") hl1
      walk_at "n"
      refine w2_tup (v := .int g) ?_ rfl rfl
      walk_at "n"
      refine w2_head ?_ (by walk_at "mem") hl1
      walk_at "n"
      refine w2_tup (v := .int x) ?_ rfl rfl
      walk_at "n"
      refine w2_head ?_ (by walk_at "mem") hl1
      walk_at "n"
      refine w2_tup (v := .int y) ?_ rfl rfl
      walk_at "n"
      refine cTup_i (show 4 < 16777216 from by decide) ?_
      walk_at "n"
      refine Wg.use [false, false, false, true] hrep (post_eq ?_)
      clear hrep hl1
      dsimp only [tupV, List.map]
      walk_at "n"
      refine xe_append ?_
      walk_at "n"
      refine ex_mem (by walk_at "mem") ?_
      walk_at "n"
      refine cTup_i (show 2 < 16777216 from by decide) ?_
      walk_at "n"
      refine exH_at [x, y] (by walk_at "at") hl2 ?_
      walk_at "n"
      by_cases hfi : fi = 1
      · obtain ⟨q1, q2, q3, dv, q4, q5⟩ := qx_facts (n := n) hq0 hq hx0 hx1
        have hinv := hi1 hfi
        have hdm := wc_int_divmod (w := w) q1 q2 hn0 (Int.lt_trans hn (by decide))
        rw [q4] at hdm
        rw [q5] at hinv
        clear q1 q2 q4 q5 hi1 hi2 hl2 hx0 hx1
        refine if_T (by rw [hfi]; rfl) ?_
        walk_at "n"
        refine w2_mul ?_ q3
        walk_at "n"
        refine Wg.use [false, true, true] hdm (post_eq ?_)
        walk_at "n"
        refine w2_tup (v := .int dv) ?_ rfl rfl
        walk_at "n"
        refine w2_mul ?_ (by decide)
        walk_at "n"
        refine cTup_i (show 4 < 16777216 from by decide) ?_
        walk_at "n"
        refine Wg.use [false, false, false, true] (wc_heappush (w := w) (l := hp0) (xs := h1) (t := [2 * (x + 1) + -dv, x + 1, -dv, 1]) hl3) (post_eq ?_)
        walk_at "n"
        exact don2 _ _ (loopP_next ⟨m, Nat.lt_succ_self m, _, _, _, rfl, hinv, by walk_at "lk", by walk_at "lk", by walk_at "lk", by walk_at "lk", by walk_at "lk"⟩)
      · refine if_F (by simpa using hfi) ?_
        walk_at "n"
        exact don2 _ _ (loopP_next ⟨m, Nat.lt_succ_self m, _, _, _, rfl, hi2 hfi, by walk_at "lk", by walk_at "lk", by walk_at "lk", by walk_at "lk", by walk_at "lk"⟩)
  · rintro o ⟨hp, ks, rfl, k5⟩
    walk_at "n"
    exact ⟨[(L, _), (37, _), (30, _), (tl0, _)], by walk_at "sl", fin _ _ ⟨_, _, rfl, _, rfl, rfl⟩⟩

end

-- B12
set_option maxRecDepth 100000
set_option maxHeartbeats 1000000
section
section
variable {w : World} {k : Nat} {env : Env} {own : Own}
theorem bindName_wp {A : Around} {E : Value → Shared → Prop} {s : Shared} {x : Str} {v : Value} {Q : Unit → Shared → Prop} (h : wpAny (model PG w) A (storeName env x v) Q E s) : wpAny (model PG w) A (bindName env x v) Q E s := by
  unfold bindName
  exact wpAny_bind (wpAny_holding (wpAny_point (wpAny_bind (wpAny_mono h (fun _ _ z => wpAny_point z) fun _ _ z => z))))
theorem ws_Assign_Swap {x y : Str} {elts n tp value pos} {P : FV → Own → Prop} (h : WE w k env value own fun v o => ∃ a b, v = .tup [a, b] ∧ W1 w k b (fun c => storeName env y c) UR o fun _ o1 => W1 w k a (fun c => storeName env x c) UR o1 fun _ o2 => P .next o2)
    (hs : swapsWithSole [.Tuple elts n tp] value pos.line env = pure false := by rfl) (hw : swappedStores [.Tuple elts n tp] value env = pure (some [x, y]) := by rfl) : WS w k env (.Assign [.Tuple elts n tp] value pos) own P := by
  intro A g s rest Q E c ok S i K
  refine Assign_Tuple_swapped (names := [x, y]) (h A g s rest _ _ c ok S i fun v h1 tk1 g1 v1 o1 h S1 l1 r1 => ?_) hs hw
  obtain ⟨a, b, rfl, h⟩ := h
  obtain ⟨t, cvs, rfl, ht, hr⟩ := VR.tup_iff.mp r1
  obtain ⟨ca, r1', rfl, ha, hr⟩ := VRs.cons_iff.mp hr
  obtain ⟨cb, r2', rfl, hb, hr⟩ := VRs.cons_iff.mp hr
  rw [VRs.nil_iff] at hr; subst hr
  have ht' : h1.IsTuple t #[ca, cb] := ht.keeps S1.sub
  refine wpAny_unpackItems_tuple (items := #[ca, cb]) (s := { s with heap := h1, toks := tk1 }) ok.1 ht' fun h' hbk => ?_
  have k1 : h1.StaysIn h' := fun b o e => hbk b o (Nat.ne_of_lt (Heap.lt_size e)) e
  show wpAny _ _ (assignInOrder [fun v => bindName env y v, fun v => bindName env x v] [cb, ca]) _ _ _
  refine assignInOrder_cons (bindName_wp (h A g1 { s with heap := h', toks := tk1 } rest _ _ cb ok (S1.ext k1) hb fun _ h2 tk2 g2 _ o2 h S2 l2 _ => ?_))
  refine assignInOrder_cons (bindName_wp (h A g2 { s with heap := h2, toks := tk2 } rest _ _ ca ok S2 (ha.mono l2) fun _ h3 tk3 g3 _ o3 h S3 l3 _ => ?_))
  exact assignInOrder_nil (K .next h3 tk3 g3 .next o3 h S3 (StaysIn.trans (StaysIn.trans l1 l2) l3) rfl)
end
noncomputable def rowLoop (bound : Int) : Nat → Int → Int → List (List Int) → Int → Int → Int → Int → Option (List (List Int))
  | 0, _, _, _, _, _, _, _ => none
  | f + 1, n, q, pre, ux, uy, vx, vy =>
    if q = 0 then some (pre ++ [[ux, uy], [vx, vy]]) else
    if 2 * vx + vy ≤ bound then
      if 100 < pre.length then none else
      rowLoop bound f q ((-n).fmod q) (pre ++ [[ux, uy]]) vx vy (-(-n).fdiv q * vx - ux) (-(-n).fdiv q * vy - uy)
    else some (pre ++ [[ux, uy], [vx, vy]])
theorem rowLoop_eq {bound n q ux uy vx vy : Int} {f : Nat} {pre : List (List Int)} : rowLoop bound (f + 1) n q pre ux uy vx vy =
    (if q = 0 then some (pre ++ [[ux, uy], [vx, vy]]) else
    if 2 * vx + vy ≤ bound then
      if 100 < pre.length then none else
      rowLoop bound f q ((-n).fmod q) (pre ++ [[ux, uy]]) vx vy (-(-n).fdiv q * vx - ux) (-(-n).fdiv q * vy - uy)
    else some (pre ++ [[ux, uy], [vx, vy]])) := rfl
theorem last1 (pre : List (List Int)) (u v : List Int) : (heapV (pre ++ [u, v]))[(-1 + ((heapV (pre ++ [u, v])).length : Int)).toNat]? = some (tupV v) := by
  rw [heapV_length]
  refine heapV_get ?_
  rw [show (-1 + (((pre ++ [u, v]).length : Nat) : Int)).toNat = pre.length + 1 from by simp; omega, List.getElem?_append_right (by omega)]
  simp
theorem last2 (pre : List (List Int)) (u v : List Int) : (heapV (pre ++ [u, v]))[(-2 + ((heapV (pre ++ [u, v])).length : Int)).toNat]? = some (tupV u) := by
  rw [heapV_length]
  refine heapV_get ?_
  rw [show (-2 + (((pre ++ [u, v]).length : Nat) : Int)).toNat = pre.length from by simp; omega, List.getElem?_append_right (by omega)]
  simp
theorem row_cases {bound n q ux uy vx vy : Int} {m : Nat} {pre row : List (List Int)} (h : rowLoop bound m n q pre ux uy vx vy = some row) : ∃ m', m = m' + 1 ∧
    ((q = 0 ∧ pre ++ [[ux, uy], [vx, vy]] = row) ∨ (¬ q = 0 ∧ ¬ 2 * vx + vy ≤ bound ∧ pre ++ [[ux, uy], [vx, vy]] = row) ∨
     (¬ q = 0 ∧ 2 * vx + vy ≤ bound ∧ pre.length ≤ 100 ∧ rowLoop bound m' q ((-n).fmod q) (pre ++ [[ux, uy]]) vx vy (-(-n).fdiv q * vx - ux) (-(-n).fdiv q * vy - uy) = some row)) := by
  cases m with
  | zero => cases h
  | succ m =>
    refine ⟨m, rfl, ?_⟩
    rw [rowLoop_eq] at h
    by_cases hq : q = 0
    · rw [if_pos hq] at h; cases h; exact .inl ⟨hq, rfl⟩
    · rw [if_neg hq] at h
      by_cases hg : 2 * vx + vy ≤ bound
      · rw [if_pos hg] at h
        by_cases hb : 100 < pre.length
        · rw [if_pos hb] at h; cases h
        · rw [if_neg hb] at h; exact .inr (.inr ⟨hq, hg, Nat.not_lt.mp hb, h⟩)
      · rw [if_neg hg] at h; cases h; exact .inr (.inl ⟨hq, hg, rfl⟩)
theorem row_facts {n q : Int} (h1 : 0 ≤ q) (h2 : q < 1001) (h3 : 0 < n) (h4 : n < 1001) (hq : ¬ q = 0) : ∃ qd rm, (-n).fdiv q = qd ∧ (-n).fmod q = rm ∧ (-qd).natAbs < 2 ^ 63 ∧ 0 ≤ rm ∧ rm < 1001 ∧ 0 < q ∧ q < 2 ^ 16 ∧ -2 ^ 20 ≤ -n ∧ -n < 2 ^ 20 := by
  have hqd : -1001 < (-n).fdiv q ∧ (-n).fdiv q < 1001 := by
    rw [Int.fdiv_eq_ediv_of_nonneg _ h1]
    constructor
    · refine Int.lt_of_lt_of_le (show -1001 < -n from by omega) ?_
      exact Int.le_ediv_of_mul_le (by omega) (by
        have := Int.mul_le_mul_of_nonneg_left (show 1 ≤ q from by omega) (show 0 ≤ n from by omega)
        rw [Int.neg_mul]; omega)
    · exact Int.lt_of_lt_of_le (Int.ediv_neg_of_neg_of_pos (by omega) (by omega)) (by decide)
  have e0 : (-n).fmod q = (-n) % q := Int.fmod_eq_emod_of_nonneg _ h1
  have e1 := Int.emod_nonneg (-n) hq
  have e2 := Int.emod_lt_of_pos (-n) (show 0 < q from by omega)
  rw [e0]
  generalize (-n).fdiv q = qd at hqd
  exact ⟨_, _, rfl, rfl, by omega, e1, Int.lt_trans e2 h2, Int.lt_iff_le_and_ne.mpr ⟨h1, Ne.symm hq⟩, Int.lt_trans h2 (by decide), Int.neg_le_neg (Int.le_trans (Int.le_of_lt h4) (by decide)), Int.lt_trans (Int.neg_neg_of_pos h3) (by decide)⟩
section
variable {w : World} {k : Nat} {own : Own}
theorem w2_last {a : Addr} {pre : List (List Int)} {u v : List Int} {value slice : Expr} {P : V → Own → Prop} (h : P (tupV v) own) (hm : (a, O.list (heapV (pre ++ [u, v]))) ∈ own)
    (hs : ∀ o i, subscripted slice false o i = operate [o, i] (getItem o i) := by intro _ _; with_unfolding_all rfl) : W2 w k (.ref a) (.int (-1)) (subscriptTail value slice) (VR w) own P :=
  w2_list_neg (v := tupV v) h hm (by decide) (by rw [heapV_length, List.length_append]; show -((pre.length + 2 : Nat) : Int) ≤ -1; omega) (last1 _ _ _) (by decide) hs
theorem w2_last2 {a : Addr} {pre : List (List Int)} {u v : List Int} {value slice : Expr} {P : V → Own → Prop} (h : P (tupV u) own) (hm : (a, O.list (heapV (pre ++ [u, v]))) ∈ own)
    (hs : ∀ o i, subscripted slice false o i = operate [o, i] (getItem o i) := by intro _ _; with_unfolding_all rfl) : W2 w k (.ref a) (.int (-2)) (subscriptTail value slice) (VR w) own P :=
  w2_list_neg (v := tupV u) h hm (by decide) (by rw [heapV_length, List.length_append]; show -((pre.length + 2 : Nat) : Int) ≤ -2; omega) (last2 _ _ _) (by decide) hs
theorem ex_row {a : Addr} {pre : List (List Int)} {u v : List Int} (x : List Int) {o own' : Own} {Q : Own → Prop} (m : At a (.list (heapV (pre ++ [u, v]))) (.list (heapV ((pre ++ [u]) ++ [v, x]))) o own') (hl : pre.length ≤ 100) (h : Q own') : ∃ vs own', At a (.list vs) (.list (vs ++ [tupV x])) o own' ∧ vs.length < 16777216 ∧ Q own' :=
  ex_at m (by simp [heapV]) (by rw [heapV_length, List.length_append]; show pre.length + 2 < _; omega) h
end
theorem ne0 {a : Int} (h : ¬ a = 0) : (a != 0) = true := by simp [h]
theorem ne0f {a : Int} (h : a = 0) : (a != 0) = false := by simp [h]
theorem wc_law_row {w : World} {n q bound : Int} {row : List (List Int)} {f : Nat} (hq0 : 0 ≤ q) (hq : q < 1001) (hn0 : 0 < n) (hn : n < 1001) (hp : rowLoop bound f n q [] 0 1 1 0 = some row) :
    WC w 560 (.ref 161) [.int n, .int q, .int bound] [(37, T37), (30, T30)] fun v o => ∃ l, v = .ref l ∧ o = [(37, T37), (30, T30), (l, .list (heapV row))] := by
  refine wc_def (k := 558) (names := ["n", "q", "bound"]) rfl rfl rfl (bind3 fun _ _ _ => rfl) rfl (by decide) (by decide) (fun L => Wg.abs fun C fin => ?_)
  walk_at "n"
  refine cTup_i (show 2 < 16777216 from by decide) ?_
  walk_at "n"
  refine cTup_i (show 2 < 16777216 from by decide) ?_
  walk_at "n"
  refine cLst_i (show 2 < 16777216 from by decide) fun rw0 => ?_
  walk_at "n"
  refine ws_WhileR (fun m o => ∃ pre ux uy vx vy n' q' ks, o = [(L, O.frame ks), (37, T37), (30, T30), (rw0, .list (heapV (pre ++ [[ux, uy], [vx, vy]])))] ∧ rowLoop bound m n' q' pre ux uy vx vy = some row ∧
      0 ≤ q' ∧ q' < 1001 ∧ 0 < n' ∧ n' < 1001 ∧ Lk ks "n" (.int n') ∧ Lk ks "q" (.int q') ∧ Lk ks "bound" (.int bound) ∧ Lk ks "row" (.ref rw0))
    (fun o => ∃ ks, o = [(L, O.frame ks), (37, T37), (30, T30), (rw0, .list (heapV row))] ∧ Lk ks "row" (.ref rw0)) ?_ f ⟨[], 0, 1, 1, 0, n, q, _, rfl, hp, hq0, hq, hn0, hn, by walk_at "lk", by walk_at "lk", by walk_at "lk", by walk_at "lk"⟩ ?_
  · clear fin hp hq0 hq hn0 hn
    intro m o hI
    refine Wg.abs fun D don => ?_
    obtain ⟨pre, ux, uy, vx, vy, n', q', ks, rfl, hinv, h1, h2, h3, h4, k1, k2, k3, k4⟩ := hI
    obtain ⟨m, rfl, hcs⟩ := row_cases hinv
    clear hinv
    by_cases hq : q' = 0
    · have hr : pre ++ [[ux, uy], [vx, vy]] = row := by
        rcases hcs with h | h | h
        · exact h.2
        · exact absurd hq h.1
        · exact absurd hq h.1
      subst hr
      walk_at "n"
      refine if_F (ne0f hq) ?_
      exact don _ _ ⟨_, rfl, k4⟩
    · replace hcs := hcs.resolve_left fun h => hq h.1
      obtain ⟨qd, rm, f1, f2, f3, f4, f5, f6, f7, f8, f9⟩ := row_facts h1 h2 h3 h4 hq
      have hdm := wc_int_divmod (w := w) f8 f9 f6 f7
      rw [f1, f2] at hdm hcs
      clear f1 f2 f7 f8 f9 h1 h3 h4
      walk_at "n"
      refine if_T (ne0 hq) ?_
      clear hq
      walk_at "n"
      refine w2_last ?_ (by walk_at "mem")
      walk_at "n"
      refine w2_tup (v := .int vx) ?_ rfl rfl
      refine w2_mul ?_ (by decide)
      walk_at "n"
      refine w2_last ?_ (by walk_at "mem")
      walk_at "n"
      refine w2_tup (v := .int vy) ?_ rfl rfl
      walk_at "n"
      rcases hcs with ⟨-, hg, rfl⟩ | ⟨-, hg, hl, hinv⟩
      · refine if_F (decide_eq_false hg) ?_
        walk_at "n"
        exact don _ _ ⟨_, rfl, k4⟩
      · refine if_T (decide_eq_true hg) ?_
        walk_at "n"
        refine don _ _ (Wg.abs fun D2 don2 => ?_)
        clear don hg
        walk_at "n"
        refine Wg.use [false, true, true] hdm (post_eq ?_)
        walk_at "n"
        refine xe_append ?_
        walk_at "n"
        refine ex_mem (by walk_at "mem") ?_
        walk_at "n"
        refine w2_last ?_ (by walk_at "mem")
        walk_at "n"
        refine w2_tup (v := .int vx) ?_ rfl rfl
        refine w2_mul ?_ f3
        walk_at "n"
        refine w2_last2 ?_ (by walk_at "mem")
        walk_at "n"
        refine w2_tup (v := .int ux) ?_ rfl rfl
        walk_at "n"
        refine w2_last ?_ (by walk_at "mem")
        walk_at "n"
        refine w2_tup (v := .int vy) ?_ rfl rfl
        refine w2_mul ?_ f3
        walk_at "n"
        refine w2_last2 ?_ (by walk_at "mem")
        walk_at "n"
        refine w2_tup (v := .int uy) ?_ rfl rfl
        walk_at "n"
        refine cTup_i (show 2 < 16777216 from by decide) ?_
        walk_at "n"
        refine ex_row [-qd * vx - ux, -qd * vy - uy] (by walk_at "at") hl ?_
        walk_at "n"
        refine ws_Assign_Swap ?_
        walk_at "n"
        refine cTup_i (show 2 < 16777216 from by decide) ?_
        refine ⟨_, _, rfl, ?_⟩
        walk_at "n"
        exact don2 _ _ (loopP_next ⟨m, Nat.lt_succ_self m, _, _, _, _, _, _, _, _, rfl, hinv, f4, f5, f6, h2, by walk_at "lk", by walk_at "lk", by walk_at "lk", by walk_at "lk"⟩)
  · rintro o ⟨ks, rfl, k5⟩
    walk_at "n"
    exact fin _ _ ⟨_, _, rfl, _, rfl, rfl⟩

end

-- B13
set_option maxRecDepth 100000
set_option maxHeartbeats 1000000
section
noncomputable def allX (n q g : Int) (m : Nat) : List (List Int) := ((List.range m).filter (fun x : Nat => decide (0 ≤ n * (g - 2 * (x : Int)) + q * (x : Int)))).map (fun x : Nat => [(x : Int), g - 2 * (x : Int)])
noncomputable def allG (n q : Int) (b : Nat) : List (List Int) := (List.range b).flatMap fun i : Nat => allX n q (1 + (i : Int)) (i + 2)
theorem allX_succ (n q g : Int) (m : Nat) : allX n q g (m + 1) = if 0 ≤ n * (g - 2 * (m : Int)) + q * (m : Int) then allX n q g m ++ [[(m : Int), g - 2 * (m : Int)]] else allX n q g m := by
  unfold allX
  rw [List.range_succ, List.filter_append]
  by_cases h : 0 ≤ n * (g - 2 * (m : Int)) + q * (m : Int)
  · rw [if_pos h, List.filter_cons_of_pos (by simpa using h), List.filter_nil, List.map_append]; rfl
  · rw [if_neg h, List.filter_cons_of_neg (by simpa using h), List.filter_nil, List.append_nil]
theorem allX_len (n q g : Int) (m : Nat) : (allX n q g m).length ≤ m := by
  unfold allX
  rw [List.length_map]
  exact Nat.le_trans (List.length_filter_le _ _) (by simp)
theorem allG_succ (n q : Int) (b : Nat) : allG n q (b + 1) = allG n q b ++ allX n q (1 + (b : Int)) (b + 2) := by
  unfold allG
  rw [List.range_succ, List.flatMap_append]; simp
theorem allG_len (n q : Int) : ∀ b : Nat, b ≤ 8 → (allG n q b).length ≤ 10 * b
  | 0, _ => by simp [allG]
  | b + 1, h => by
    rw [allG_succ, List.length_append]
    have := allG_len n q b (by omega)
    have := allX_len n q (1 + (b : Int)) (b + 2)
    omega
theorem small_range : ∀ b : Nat, b ≤ 10 → Builtin.Range.small 0 (b : Int) 1 = true ∧ Builtin.Range.small 1 (b : Int) 1 = true := by decide

theorem all_facts {n q : Int} {b i : Nat} (hb : b ≤ 8) (hi : i < b) : ∃ g, 1 + (i : Int) = g ∧ Builtin.Range.small 0 (g + 1) 1 = true ∧ (g + 1 - 0).toNat = i + 2 ∧ allG n q (i + 1) = allG n q i ++ allX n q g (i + 2) ∧ (allG n q i).length + 20 < 1000000 := by
  refine ⟨_, rfl, ?_, by omega, allG_succ n q i, ?_⟩
  · have := (small_range (1 + i + 1) (by omega)).1; push_cast at this; exact this
  · have := allG_len n q i (by omega); omega
theorem allX_step (n q g : Int) {j i : Nat} (hj : j < i + 2) (hi : i < 8) : ∃ x, 0 + (j : Int) = x ∧ (0 ≤ n * (g - 2 * x) + q * x → allX n q g (j + 1) = allX n q g j ++ [[x, g - 2 * x]]) ∧ (¬ 0 ≤ n * (g - 2 * x) + q * x → allX n q g (j + 1) = allX n q g j) ∧ (allX n q g j).length < 20 := by
  refine ⟨_, rfl, fun h => ?_, fun h => ?_, ?_⟩
  · rw [Int.zero_add] at h ⊢; rw [allX_succ, if_pos h]
  · rw [Int.zero_add] at h; rw [allX_succ, if_neg h]
  · have := allX_len n q g j; omega

theorem wc_law_all {w : World} {n q : Int} {b : Nat} (hb : b ≤ 8) (hq0 : 0 ≤ q) (hq : q < 1001) (hn0 : 0 < n) (hn : n < 1001) :
    WC w 50 (.ref 175) [.int n, .int q, .int b] [] fun v o => ∃ l, v = .ref l ∧ o = [(l, .list (heapV (allG n q b)))] := by
  have hn' : n.natAbs < 2 ^ 63 := by omega
  have hq' : q.natAbs < 2 ^ 63 := by omega
  clear hq0 hq hn0 hn
  refine wc_def (k := 48) (names := ["n", "q", "bound"]) rfl rfl rfl (bind3 fun _ _ _ => rfl) rfl (by decide) (by decide) (fun L => Wg.abs fun C fin => ?_)
  refine Wg.dropPost ?_
  walk_at "n"
  refine cLst_i (show 0 < 16777216 from by decide) fun tl => ?_
  walk_at "n"
  refine ws_For_range (a := 1) (b := (b : Int) + 1) (fun i o => ∃ ks, o = [(L, O.frame ks), (tl, .list (heapV (allG n q i)))] ∧ Lk ks "n" (.int n) ∧ Lk ks "q" (.int q) ∧ Lk ks "told" (.ref tl)) ?_ (by have := (small_range (b + 1) (by omega)).2; push_cast at this; exact this) ?_ ?_
  · walk_at "n"
    refine wc_range2 fun r => ?_
    exact ⟨r, [(L, _), (tl, _)], rfl, rfl, _, rfl, by walk_at "lk", by walk_at "lk", by walk_at "lk"⟩
  · clear fin
    intro i o hi hI
    refine Wg.abs fun D don => ?_
    obtain ⟨ks, rfl, k1, k2, k3⟩ := hI
    obtain ⟨g, eg, f1, f2, f3, f4⟩ := all_facts (n := n) (q := q) hb (show i < b from by omega)
    rw [eg]
    clear eg
    have hi8 : i < 8 := by omega
    walk_at "n"
    refine don _ _ (Wg.abs fun D2 don2 => ?_)
    clear don
    rw [f3] at don2
    walk_at "n"
    refine ws_For_range (a := 0) (b := g + 1) (fun j o => ∃ ks, o = [(L, O.frame ks), (tl, .list (heapV (allG n q i ++ allX n q g j)))] ∧ Lk ks "n" (.int n) ∧ Lk ks "q" (.int q) ∧ Lk ks "told" (.ref tl) ∧ Lk ks "grade" (.int g)) ?_ f1 ?_ ?_
    · walk_at "n"
      refine wc_range1 fun r => ?_
      exact ⟨r, [(L, _), (tl, _)], rfl, rfl, _, by rw [show allX n q g 0 = [] from rfl, List.append_nil], by walk_at "lk", by walk_at "lk", by walk_at "lk", by walk_at "lk"⟩
    · clear don2
      intro j o hj hI
      refine Wg.abs fun D don => ?_
      obtain ⟨ks, rfl, k1, k2, k3, k4⟩ := hI
      obtain ⟨x, ex, x1, x2, x3⟩ := allX_step n q g (show j < i + 2 from f2 ▸ hj) hi8
      rw [ex]
      clear ex hj
      walk_at "n"
      refine don _ _ (Wg.abs fun D3 don3 => ?_)
      clear don
      walk_at "n"
      refine w2_mul ?_ (by decide)
      walk_at "n"
      refine w2_mul ?_ hn'
      walk_at "n"
      refine w2_mul ?_ hq'
      walk_at "n"
      by_cases hc : 0 ≤ n * (g - 2 * x) + q * x
      · rw [x1 hc, ← List.append_assoc] at don3
        refine if_T (decide_eq_true hc) ?_
        walk_at "n"
        refine xe_append ?_
        walk_at "n"
        refine ex_mem (by walk_at "mem") ?_
        walk_at "n"
        refine w2_mul ?_ (by decide)
        walk_at "n"
        refine cTup_i (show 2 < 16777216 from by decide) ?_
        walk_at "n"
        refine exH_at [x, g - 2 * x] (by walk_at "at") (by rw [List.length_append]; omega) ?_
        walk_at "n"
        exact don3 _ _ (loopP_next ⟨_, rfl, by walk_at "lk", by walk_at "lk", by walk_at "lk", by walk_at "lk"⟩)
      · rw [x2 hc] at don3
        refine if_F (decide_eq_false hc) ?_
        walk_at "n"
        exact don3 _ _ (loopP_next ⟨_, rfl, by walk_at "lk", by walk_at "lk", by walk_at "lk", by walk_at "lk"⟩)
    · rintro o ⟨ks, rfl, k1, k2, k3, k4⟩
      rw [f2]
      walk_at "n"
      exact don2 _ _ (loopP_next ⟨_, rfl, k1, k2, k3⟩)
  · rintro o ⟨ks, rfl, k1, k2, k3⟩
    rw [show ((b : Int) + 1 - 1).toNat = b from by omega]
    walk_at "n"
    exact ⟨[(L, _), (tl, _)], by walk_at "sl", fin _ _ ⟨_, _, rfl, _, rfl, rfl⟩⟩

end

-- B14
set_option maxRecDepth 100000
set_option maxHeartbeats 1000000
section
section
variable {w : World} {k : Nat} {env : Env} {own : Own}
theorem ws_For_zip2 {es : List Expr} {n : Nat} {tp : Pos} {iter : Expr} {body : List Stmt} {pos} {l1 : Addr} {vs1 vs2 : List V} {P : FV → Own → Prop} (Inv : Addr → Nat → Own → Prop)
    (h : WE w k env iter own fun v o1 => ∃ l2 i1 i2 TI TO z o, v = .ref z ∧ o1 = o ++ zipO i1 i2 TI TO z l1 l2 0 ∧ Inv l2 0 o) (hm1 : ∀ l2 i o, Inv l2 i o → (l1, O.list vs1) ∈ o) (hm2 : ∀ l2 i o, Inv l2 i o → (l2, O.list vs2) ∈ o)
    (turn : ∀ l2 i a b o, vs1[i]? = some a → vs2[i]? = some b → Inv l2 i o → WA w k env (.Tuple es n tp) (.tup [a, b]) o fun _ o1 => WSs w k env body o1 (loopP P (Inv l2 (i + 1))))
    (done : ∀ l2 o, Inv l2 (min vs1.length vs2.length) o → P .next o)
    (hs : ∀ x, foldedSetIterable iter env x = pure x := by intro _; rfl) : WS w k env (.For (.Tuple es n tp) iter body [] pos) own P := by
  refine ws_For (min vs1.length vs2.length) (fun it i o => ∃ l2 i1 i2 TI TO z o', it = .ref z ∧ o = o' ++ zipO i1 i2 TI TO z l1 l2 i ∧ Inv l2 i o') (h.mono fun v o ⟨l2, i1, i2, TI, TO, z, o', e, e2, hI⟩ => ?_) (fun it i o hi hJ => ?_) hs
  · subst e e2
    intro A g s rest Q E c ok S rr K
    rw [VR.raw_iff] at rr; subst rr
    obtain ⟨_, _, oz, hz, ez⟩ := S.ent (z, .raw { cls := .type "zip", dict := none, data := .fields #[.none, .bool false, .bool false, .ref TI, .ref TO], slots := #[] }) (List.mem_append_left _ (List.mem_append_right _ (by simp [zipO])))
    have ez' : oz = _ := ez
    subst ez'
    exact wpAny_pyIter_zip hz (K _ s.heap s.toks g (.ref z) _ ⟨_, rfl, _, _, _, _, _, _, o', rfl, rfl, hI⟩ S (StaysIn.refl _) (VR.raw_iff.mpr rfl))
  · obtain ⟨l2, i1, i2, TI, TO, z, o', rfl, rfl, hI⟩ := hJ
    intro A g s rest Q E E' ok S K
    obtain ⟨c1, n1, ho1, q1⟩ := ent_list S (mem_app (mem_app (hm1 l2 i o' hI)))
    obtain ⟨c2, n2, ho2, q2⟩ := ent_list S (mem_app (mem_app (hm2 l2 i o' hI)))
    have hl1 : s.heap.IsList l1 (List.toArray c1) := ⟨_, ho1, rfl, n1, rfl⟩
    have hl2 : s.heap.IsList l2 (List.toArray c2) := ⟨_, ho2, rfl, n2, rfl⟩
    have D := zip_apart S (hm1 l2 i o' hI) (hm2 l2 i o' hI)
    have M : ∀ p ∈ zipO i1 i2 TI TO z l1 l2 i, ∃ o, s.heap.get? p.1 = some o ∧ OR w g p.2 o := fun p hp => (S.ent p (List.mem_append_left _ (List.mem_append_right _ hp))).2.2
    obtain ⟨x1, y1, d1⟩ := M (i1, liO l1 i) (by simp [zipO])
    obtain ⟨x2, y2, d2⟩ := M (i2, liO l2 i) (by simp [zipO])
    obtain ⟨x3, y3, d3⟩ := M (TI, .raw { cls := .type "tuple", data := .seq #[.ref i1, .ref i2] }) (by simp [zipO])
    obtain ⟨x4, y4, a, b, d4⟩ := M (TO, .such fun o => ∃ a b, o = { cls := .type "tuple", data := .seq #[a, b] }) (by simp [zipO])
    obtain ⟨x5, y5, d5⟩ := M (z, .raw { cls := .type "zip", dict := none, data := .fields #[.none, .bool false, .bool false, .ref TI, .ref TO], slots := #[] }) (by simp [zipO])
    have d3' : x3 = _ := d3
    have d5' : x5 = _ := d5
    subst d3' d4 d5'
    have hit1 : s.heap.IsListIter i1 l1 i := ⟨x1, y1, d1⟩
    have hit2 : s.heap.IsListIter i2 l2 i := ⟨x2, y2, d2⟩
    have hz : IsZip s.heap z TI TO .none := y5
    by_cases hii : i = min vs1.length vs2.length
    · refine wpAny_pyNext_zip_end ok.1 D hz y3 y4 hit1 hit2 hl1 hl2 ?_ fun h' hk => ?_
      · have e1 := q1.length; have e2 := q2.length
        by_cases hle : vs1.length ≤ vs2.length
        · left; rw [hii, Nat.min_eq_left hle, ← e1]; simp
        · right; rw [hii, Nat.min_eq_right (by omega), ← e2]; simp
      · rw [hii] at hI
        exact K none h' s.toks g none o' (wss_nil ⟨o', List.Sublist.refl _, done _ _ hI⟩) (S.drops fun b o q e => hk b o (fun z => q (by simp [z, zipO])) (fun z => q (by simp [z, zipO])) (fun z => q (by simp [z, zipO])) (fun z => q (by simp [z, zipO])) e) (StaysIn.refl _) rfl
    · have hlt : i < min vs1.length vs2.length := by omega
      obtain ⟨v1, hx1⟩ : ∃ v, vs1[i]? = some v := ⟨_, List.getElem?_eq_getElem (by omega)⟩
      obtain ⟨v2, hx2⟩ : ∃ v, vs2[i]? = some v := ⟨_, List.getElem?_eq_getElem (by omega)⟩
      obtain ⟨u1, hu1, r1⟩ := q1.get hx1
      obtain ⟨u2, hu2, r2⟩ := q2.get hx2
      refine wpAny_pyNext_zip_item D hz y3 y4 hit1 hit2 hl1 hl2 (by simpa using hu1) (by simpa using hu2) fun h' hz' hTO' ht1 ht2 hT hsz hk => ?_
      obtain ⟨z1, w1, b1⟩ := ht1
      obtain ⟨z2, w2, b2⟩ := ht2
      have hTI' : h'.get? TI = some { cls := .type "tuple", data := .seq #[.ref i1, .ref i2] } := hk TI _ D.TIz D.TITO D.TIi1 D.TIi2 y3
      have S1 : Sim w ((o' ++ [(i1, liO l1 (i + 1)), (i2, liO l2 (i + 1)), (TI, .raw { cls := .type "tuple", data := .seq #[.ref i1, .ref i2] }), (TO, .such fun o => ∃ a b, o = { cls := .type "tuple", data := .seq #[a, b] }), (z, .raw { cls := .type "zip", dict := none, data := .fields #[rawInt s.heap.objs.size, .bool false, .bool false, .ref TI, .ref TO], slots := #[] })]) ++ rest) h' g := by
        refine S.turns (mid := zipO i1 i2 TI TO z l1 l2 i) rfl (fun b o q e => hk b o (fun z => q (by simp [z, zipO])) (fun z => q (by simp [z, zipO])) (fun z => q (by simp [z, zipO])) (fun z => q (by simp [z, zipO])) e) fun q hq => ?_
        simp only [List.mem_cons, List.not_mem_nil, or_false] at hq
        rcases hq with rfl | rfl | rfl | rfl | rfl
        · exact ⟨z1, w1, b1⟩
        · exact ⟨z2, w2, b2⟩
        · exact ⟨_, hTI', rfl⟩
        · exact ⟨_, hTO', _, _, rfl⟩
        · exact ⟨_, hz', rfl⟩
      obtain ⟨g2, S2, l2', e2⟩ := S1.fullAt hT (fun q hq => by
        have key : q.1 ∈ ((o' ++ zipO i1 i2 TI TO z l1 l2 i) ++ rest).map (·.1) := by
          have := List.mem_map_of_mem (f := (·.1)) hq
          simpa [zipO] using this
        obtain ⟨q', hq', e⟩ := List.mem_map.mp key
        have := S.lt hq'
        rw [e] at this
        exact Nat.ne_of_lt this)
      have T := turn_frame (more := zipO i1 i2 TI TO z l1 l2 (i + 1)) (turn l2 i v1 v2 o' hx1 hx2 hI) (J := fun o => ∃ l2 i1 i2 TI TO z' o', Value.ref z = .ref z' ∧ o = o' ++ zipO i1 i2 TI TO z' l1 l2 (i + 1) ∧ Inv l2 (i + 1) o') fun o ho => ⟨_, _, _, _, _, _, o, rfl, rfl, ho⟩
      refine wpAny_letOwnedTupleGo_zip (s := { s with heap := h' }) hz' fun h2 hz2 hs2 => ?_
      have S3 : Sim w ((o' ++ zipO i1 i2 TI TO z l1 l2 (i + 1)) ++ rest) h2 g2 := by
        have m : ∀ (l : Own) {x y : O}, At z x y (l ++ [(i1, liO l1 (i + 1)), (i2, liO l2 (i + 1)), (TI, .raw { cls := .type "tuple", data := .seq #[.ref i1, .ref i2] }), (TO, .such fun o => ∃ a b, o = { cls := .type "tuple", data := .seq #[a, b] }), (z, x)])
            (l ++ [(i1, liO l1 (i + 1)), (i2, liO l2 (i + 1)), (TI, .raw { cls := .type "tuple", data := .seq #[.ref i1, .ref i2] }), (TO, .such fun o => ∃ a b, o = { cls := .type "tuple", data := .seq #[a, b] }), (z, y)]) := by
          intro l x y
          induction l with
          | nil => exact .tail (.tail (.tail (.tail .head)))
          | cons p r ih => exact .tail ih
        exact S2.turnAt ((m o').append rest) hs2 hz2 rfl
      exact K _ h2 s.toks g2 (some (.tup [v1, v2])) _ ⟨hlt, T⟩ S3 l2' ⟨_, rfl, VR.tup_iff.mpr ⟨_, [u1, u2], rfl, ⟨_, e2, rfl, 0, rfl⟩, VRs.cons_iff.mpr ⟨_, _, rfl, r1.mono l2', VRs.cons_iff.mpr ⟨_, _, rfl, r2.mono l2', VRs.nil_iff.mpr rfl⟩⟩⟩⟩
end
noncomputable def sumT (left right lx rx : Int) : List (Int × Int) := if 0 < right then storeD (if 0 < left then [(lx, left)] else []) rx right else (if 0 < left then [(lx, left)] else [])
noncomputable def sumR (x y : Int) : List (List Int) → Option (Int × Int × List (Int × Int))
  | [lx, ly] :: [rx, ry] :: r =>
    if lx.natAbs ≤ 100000 ∧ ly.natAbs ≤ 100000 ∧ rx.natAbs ≤ 100000 ∧ ry.natAbs ≤ 100000 then
      if 0 ≤ y * rx - x * ry ∧ 0 ≤ x * ly - y * lx then
        some (y * rx - x * ry + (x * ly - y * lx), (y * rx - x * ry) * lx * lx + (x * ly - y * lx) * rx * rx, sumT (y * rx - x * ry) (x * ly - y * lx) lx rx)
      else sumR x y ([rx, ry] :: r)
    else none
  | _ => none
theorem sumR_eq {x y lx ly rx ry : Int} {r : List (List Int)} : sumR x y ([lx, ly] :: [rx, ry] :: r) =
    (if lx.natAbs ≤ 100000 ∧ ly.natAbs ≤ 100000 ∧ rx.natAbs ≤ 100000 ∧ ry.natAbs ≤ 100000 then
      if 0 ≤ y * rx - x * ry ∧ 0 ≤ x * ly - y * lx then
        some (y * rx - x * ry + (x * ly - y * lx), (y * rx - x * ry) * lx * lx + (x * ly - y * lx) * rx * rx, sumT (y * rx - x * ry) (x * ly - y * lx) lx rx)
      else sumR x y ([rx, ry] :: r)
    else none) := rfl
theorem mul_abs {a b : Int} {A B : Nat} (h1 : a.natAbs ≤ A) (h2 : b.natAbs ≤ B) : (a * b).natAbs ≤ A * B := by
  rw [Int.natAbs_mul]; exact Nat.mul_le_mul h1 h2
theorem sumR_inv {x y : Int} {l : List (List Int)} {res} (h : sumR x y l = some res) : ∃ lx ly rx ry r, l = [lx, ly] :: [rx, ry] :: r := by
  obtain _ | ⟨a, l⟩ := l
  · cases h
  obtain _ | ⟨lx, _ | ⟨ly, _ | ⟨_, _⟩⟩⟩ := a
  · cases h
  · cases h
  · obtain _ | ⟨a, l⟩ := l
    · cases h
    obtain _ | ⟨rx, _ | ⟨ry, _ | ⟨_, _⟩⟩⟩ := a
    · cases h
    · cases h
    · exact ⟨_, _, _, _, _, rfl⟩
    · cases h
  · cases h

theorem sum_facts {x y lx ly rx ry : Int} (hx : x.natAbs ≤ 1000) (hy : y.natAbs ≤ 1000) (hs : lx.natAbs ≤ 100000 ∧ ly.natAbs ≤ 100000 ∧ rx.natAbs ≤ 100000 ∧ ry.natAbs ≤ 100000) :
    ∃ left right, y * rx - x * ry = left ∧ x * ly - y * lx = right ∧ y.natAbs < 2 ^ 63 ∧ x.natAbs < 2 ^ 63 ∧ left.natAbs < 2 ^ 63 ∧ (left * lx).natAbs < 2 ^ 63 ∧ right.natAbs < 2 ^ 63 ∧ (right * rx).natAbs < 2 ^ 63 := by
  obtain ⟨s1, s2, s3, s4⟩ := hs
  have m1 := mul_abs hy s3
  have m2 := mul_abs hx s4
  have m3 := mul_abs hx s2
  have m4 := mul_abs hy s1
  have hl : (y * rx - x * ry).natAbs ≤ 200000000 := Nat.le_trans (Int.natAbs_sub_le _ _) (Nat.add_le_add m1 m2)
  have hr' : (x * ly - y * lx).natAbs ≤ 200000000 := Nat.le_trans (Int.natAbs_sub_le _ _) (Nat.add_le_add m3 m4)
  have m5 := mul_abs hl s1
  have m6 := mul_abs hr' s3
  clear m1 m2 m3 m4
  exact ⟨_, _, rfl, rfl, Nat.lt_of_le_of_lt hy (by decide), Nat.lt_of_le_of_lt hx (by decide), Nat.lt_of_le_of_lt hl (by decide), Nat.lt_of_le_of_lt m5 (by decide), Nat.lt_of_le_of_lt hr' (by decide), Nat.lt_of_le_of_lt m6 (by decide)⟩
theorem sum_cases {x y p s : Int} {t : List (Int × Int)} {row : List (List Int)} {i : Nat} {a b : V} (hx : x.natAbs ≤ 1000) (hy : y.natAbs ≤ 1000) (h : sumR x y (row.drop i) = some (p, s, t)) (ha : (heapV row)[i]? = some a) (hb : ((heapV row).drop 1)[i]? = some b) :
    ∃ lx ly rx ry left right, a = tupV [lx, ly] ∧ b = tupV [rx, ry] ∧ y * rx - x * ry = left ∧ x * ly - y * lx = right ∧ y.natAbs < 2 ^ 63 ∧ x.natAbs < 2 ^ 63 ∧ left.natAbs < 2 ^ 63 ∧ (left * lx).natAbs < 2 ^ 63 ∧ right.natAbs < 2 ^ 63 ∧ (right * rx).natAbs < 2 ^ 63 ∧
      (0 ≤ left → 0 ≤ right → p = left + right ∧ s = left * lx * lx + right * rx * rx ∧ t = sumT left right lx rx) ∧ (¬ (0 ≤ left ∧ 0 ≤ right) → sumR x y (row.drop (i + 1)) = some (p, s, t)) := by
  obtain ⟨lx, ly, rx, ry, r, hrow⟩ := sumR_inv h
  have e1 : row[i]? = some [lx, ly] := by
    have := congrArg (fun l => l[0]?) hrow
    simpa using this
  have e2 : row[i + 1]? = some [rx, ry] := by
    have := congrArg (fun l => l[1]?) hrow
    simpa using this
  have e3 : row.drop (i + 1) = [rx, ry] :: r := by
    have := congrArg (fun l => l.drop 1) hrow
    simpa using this
  have ea : a = tupV [lx, ly] := by rw [heapV_get e1] at ha; cases ha; rfl
  have eb : b = tupV [rx, ry] := by
    rw [List.getElem?_drop, Nat.add_comm, heapV_get e2] at hb; cases hb; rfl
  rw [hrow, sumR_eq] at h
  by_cases hs : lx.natAbs ≤ 100000 ∧ ly.natAbs ≤ 100000 ∧ rx.natAbs ≤ 100000 ∧ ry.natAbs ≤ 100000
  · rw [if_pos hs] at h
    obtain ⟨left, right, f1, f2, f3, f4, f5, f6, f7, f8⟩ := sum_facts hx hy hs
    rw [f1, f2] at h
    refine ⟨lx, ly, rx, ry, left, right, ea, eb, f1, f2, f3, f4, f5, f6, f7, f8, fun h1 h2 => ?_, fun hn => ?_⟩
    · rw [if_pos ⟨h1, h2⟩] at h; cases h; exact ⟨rfl, rfl, rfl⟩
    · rw [if_neg hn] at h; rw [e3]; exact h
  · rw [if_neg hs] at h; cases h
section
variable {w : World} {k : Nat} {own : Own}
theorem w2_subE {i j z : Int} {P : V → Own → Prop} (h : P (.int z) own) (e : i - j = z) : W2 w k (.int i) (.int j) (binaryOp .Sub) (VR w) own P := w2_sub (e.symm ▸ h)
end
theorem lt3b {n : Nat} (h : n ≤ 2) : n < 1000000 := Nat.lt_of_le_of_lt h (by decide)
theorem wc_law_sum {w : World} {x y p s : Int} {t : List (Int × Int)} {rl : Addr} {row : List (List Int)} (hx : x.natAbs ≤ 1000) (hy : y.natAbs ≤ 1000) (hlen : row.length ≤ 1000) (hr : sumR x y row = some (p, s, t)) :
    WC w 50 (.ref 168) [.int x, .int y, .ref rl] [(rl, .list (heapV row))] fun v o => v = entV x y p s t ∧ o = [(rl, .list (heapV row))] := by
  have hl2 : 1 ≤ (heapV row).length ∧ (heapV row).length < 16777216 ∧ min (heapV row).length ((heapV row).drop 1).length = row.length - 1 ∧ 2 ≤ row.length := by
    obtain ⟨_, _, _, _, _, hrow⟩ := sumR_inv hr
    have : 2 ≤ row.length := by rw [hrow]; simp
    rw [List.length_drop, heapV_length]; exact ⟨Nat.le_of_succ_le this, Nat.lt_of_le_of_lt hlen (by decide), Nat.min_eq_right (Nat.sub_le _ _), this⟩
  refine wc_def (k := 48) (names := ["x", "y", "row"]) rfl rfl rfl (bind3 fun _ _ _ => rfl) rfl (by decide) (by decide) (fun L => Wg.abs fun C fin => ?_)
  refine Wg.dropPost ?_
  walk_at "n"
  refine ws_For_zip2 (l1 := rl) (vs1 := heapV row) (vs2 := (heapV row).drop 1) (fun l2 i o => ∃ ks, o = [(L, O.frame ks), (rl, .list (heapV row)), (l2, .list ((heapV row).drop 1))] ∧ sumR x y (row.drop i) = some (p, s, t) ∧ Lk ks "x" (.int x) ∧ Lk ks "y" (.int y)) ?_ ?_ ?_ ?_ ?_
  · walk_at "n"
    refine ⟨rl, _, rfl, by walk_at "mem", hl2.1, hl2.2.1, fun b => ?_⟩
    walk_at "n"
    refine wc_zip (l1 := rl) (l2 := b) (by walk_at "mem") (by walk_at "mem") fun i1 i2 TI TO z => ?_
    exact ⟨b, i1, i2, TI, TO, z, [(L, _), (rl, _), (b, _)], rfl, rfl, _, rfl, hr, by walk_at "lk", by walk_at "lk"⟩
  · rintro l2 i o ⟨ks, rfl, _⟩
    walk_at "mem"
  · rintro l2 i o ⟨ks, rfl, _⟩
    walk_at "mem"
  · clear hr hl2 hlen
    intro l2 i a b o ha hb hI
    refine Wg.abs fun D don => ?_
    obtain ⟨ks, rfl, hinv, k1, k2⟩ := hI
    obtain ⟨lx, ly, rx, ry, left, right, rfl, rfl, e1, e2, f3, f4, f5, f6, f7, f8, g1, g2⟩ := sum_cases hx hy hinv ha hb
    clear ha hb hinv hx hy
    dsimp only [tupV, List.map]
    walk_at "n"
    refine don _ _ (Wg.abs fun D2 don2 => ?_)
    clear don
    walk_at "i"
    refine w2_mul ?_ f3
    walk_at "i"
    refine w2_mul ?_ f4
    refine w2_subE ?_ e1
    walk_at "i"
    refine w2_mul ?_ f4
    walk_at "i"
    refine w2_mul ?_ f3
    refine w2_subE ?_ e2
    walk_at "i"
    clear e1 e2 f3 f4
    refine xs_If ?_
    by_cases hlr : 0 ≤ left ∧ 0 ≤ right
    · obtain ⟨rfl, rfl, rfl⟩ := g1 hlr.1 hlr.2
      walk_at "i"
      refine if_T (decide_eq_true hlr.1) ?_
      walk_at "i"
      refine if_T (decide_eq_true hlr.2) ?_
      clear hlr g1 g2
      walk_at "i"
      refine' fun tb => ?_
      walk_at "i"
      refine Wg.abs fun Q1 q1 => ?_
      have tail1 : ∀ (kvs : List (Int × Int)) ks, kvs = (if 0 < left then [(lx, left)] else []) → Lk ks "x" (.int x) → Lk ks "y" (.int y) → Lk ks "left" (.int left) → Lk ks "right" (.int right) → Lk ks "left_x" (.int lx) → Lk ks "right_x" (.int rx) → Lk ks "table" (.ref tb) →
          Q1 .next [(L, .frame ks), (rl, .list (heapV row)), (l2, .list ((heapV row).drop 1)), (tb, .dict (mapV kvs))] := by
        intro kvs ks ek k1 k2 k3 k4 k5 k6 k7
        refine q1 _ _ ?_
        clear q1
        have el : kvs.length ≤ 1 := by rw [ek]; split <;> simp
        have es : sumT left right lx rx = if 0 < right then storeD kvs rx right else kvs := by rw [sumT, ek]
        rw [es] at fin
        clear es ek
        walk_at "i"
        refine Wg.abs fun Q2 q2 => ?_
        have tail2 : ∀ (kvs' : List (Int × Int)) ks, kvs' = (if 0 < right then storeD kvs rx right else kvs) → Lk ks "x" (.int x) → Lk ks "y" (.int y) → Lk ks "left" (.int left) → Lk ks "right" (.int right) → Lk ks "left_x" (.int lx) → Lk ks "right_x" (.int rx) → Lk ks "table" (.ref tb) →
            Q2 .next [(L, .frame ks), (rl, .list (heapV row)), (l2, .list ((heapV row).drop 1)), (tb, .dict (mapV kvs'))] := by
          intro kvs' ks ek k1 k2 k3 k4 k5 k6 k7
          refine q2 _ _ ?_
          rw [← ek] at fin
          clear q2 ek el
          walk_at "n"
          refine Wg.freezeAs (L := L) (a := tb) (x := "table") (kvs := kvs') (pre := [(rl, .list (heapV row)), (l2, .list ((heapV row).drop 1))]) (post := []) (fun g g' c l h => ⟨h.1.mono l, h.2.mono l⟩) k7 ?_
          walk_at "n"
          refine w2_mul ?_ f5
          walk_at "n"
          refine w2_mul ?_ f6
          walk_at "n"
          refine w2_mul ?_ f7
          walk_at "n"
          refine w2_mul ?_ f8
          walk_at "n"
          refine cTup_i (show 5 < 16777216 from by decide) ?_
          walk_at "n"
          exact don2 _ _ (loopP_ret ⟨[(L, _), (rl, _)], by walk_at "sl", fin _ _ ⟨_, _, rfl, rfl, rfl⟩⟩)
        clear q2 don2 fin f5 f6 f7 f8
        refine xs_If ?_
        walk_at "n"
        by_cases p2 : 0 < right
        · refine if_T (decide_eq_true p2) ?_
          walk_at "n"
          refine' w3_dictM ?_ ?hat (lt3b (Nat.le_trans el (by decide)))
          case hat => walk_at "at"
          walk_at "n"
          exact tail2 _ _ (if_pos p2).symm (by walk_at "lk") (by walk_at "lk") (by walk_at "lk") (by walk_at "lk") (by walk_at "lk") (by walk_at "lk") (by walk_at "lk")
        · refine if_F (decide_eq_false p2) ?_
          walk_at "n"
          exact tail2 _ _ (if_neg p2).symm (by walk_at "lk") (by walk_at "lk") (by walk_at "lk") (by walk_at "lk") (by walk_at "lk") (by walk_at "lk") (by walk_at "lk")
      clear q1 don2 fin f5 f6 f7 f8
      refine xs_If ?_
      walk_at "n"
      by_cases p1 : 0 < left
      · refine if_T (decide_eq_true p1) ?_
        walk_at "n"
        refine' w3_dictM (kvs := []) ?_ ?hat (by decide)
        case hat => walk_at "at"
        walk_at "n"
        exact tail1 _ _ (if_pos p1).symm (by walk_at "lk") (by walk_at "lk") (by walk_at "lk") (by walk_at "lk") (by walk_at "lk") (by walk_at "lk") (by walk_at "lk")
      · refine if_F (decide_eq_false p1) ?_
        walk_at "n"
        exact tail1 [] _ (if_neg p1).symm (by walk_at "lk") (by walk_at "lk") (by walk_at "lk") (by walk_at "lk") (by walk_at "lk") (by walk_at "lk") (by walk_at "lk")
    · have hst := g2 hlr
      clear g1 g2 f5 f6 f7 f8
      walk_at "i"
      refine if_andB false (fun h1 h2 => ?_) (fun _ => rfl) ?_
      · refine Wg.abs fun D3 don3 => ?_
        have hr : ¬ 0 ≤ right := fun h => hlr ⟨of_decide_eq_true h1, h⟩
        walk_at "n"
        exact if_and1 (don3 _ _ (h2 _ (decide_eq_false hr)))
      · refine if_F rfl ?_
        walk_at "n"
        exact don2 _ _ (loopP_next ⟨_, rfl, hst, by walk_at "lk", by walk_at "lk"⟩)
  · rintro l2 o ⟨ks, rfl, hinv, k1, k2⟩
    exfalso
    rw [hl2.2.2.1] at hinv
    obtain ⟨_, _, _, _, _, e⟩ := sumR_inv hinv
    have := congrArg List.length e
    simp at this
    omega

end

-- B15
set_option maxRecDepth 100000
set_option maxHeartbeats 1000000
section
theorem call_coreC {w : World} {k : Nat} {own : Own} {A : Around} {g : Heap} {s : Shared} {rest : Own} {R : Result → Shared → Prop} {cvs : List Value} {f : Addr} {o : Obj} {fd : FuncData} {body : List Stmt} {names : List Str} {vs : List V} {ks : List (Str × V)} {P : V → Own → Prop}
    (ok : Ok A (k + 2)) (S : Sim w (own ++ rest) s.heap g) (r : VRs w g vs cvs) (ho : s.heap.get? f = some o) (hd : o.data = .func fd) (hcode : s.heap.CodeRec fd.code fd.qualname) (hbody : fd.body = .stmts body)
    (hb : bindArgs fd ⟨cvs, []⟩ = pure (names.zip cvs)) (hks : (names.zip vs).reverse = ks)
    (hloc : ∀ x ∈ names, fd.scope.names.lookup x = some .local) (hcell : ∀ x ∈ fd.scope.names, x.2 ≠ .cell)
    (h : ∀ L, WSs w k (callEnv fd L f) body ((L, .frame ks) :: own) fun fl o => ∃ F o', o = (L, F) :: o' ∧ P (retV fl) o')
    (K : ∀ a h' tk g' b own', P b own' → Sim w (own' ++ rest) h' g' → g.StaysIn g' → VR w g' b a → R (.ok (.ret a)) { s with heap := h', toks := tk })
    (hco : fd.scope.isCoroutine = false) (hgen : fd.scope.isGenerator = false) (hk : fd.scope.kind = .function) : codeAny (model PG w) A (.call (.ref f) ⟨cvs, []⟩) R s := by
  obtain ⟨X, _, _, _, mg, mb, T, _⟩ := S.base
  refine codeAny_call_def (binds := names.zip cvs) (by have := ok.2.1; omega) ho hd ((T.nolimit).keeps S.sub) hcode hbody (BindsTo.of_eq hb) hcell (fun x hx => hloc _ (List.of_mem_zip hx).1) (fun h₁ hns hk₁ => ?_) hco hgen hk
  obtain ⟨oL, es, ep, hoL, hdL, hkL, hmL⟩ := hns
  have S1 : Sim w (((s.heap.objs.size, O.frame ks) :: own) ++ rest) h₁ g := by
    refine (S.ext hk₁).cons S.three S.fresh_none hoL ⟨es, ep, hdL, hkL, fun x v e => ?_⟩ fun q => ?_
    · rw [hmL]
      rw [← hks] at e
      exact zip_rev_lookup r e
    · obtain ⟨p, hp, e⟩ := List.mem_map.mp q
      exact absurd (S.lt hp) (e ▸ Nat.lt_irrefl _)
  refine h s.heap.objs.size (A.deeper (callEnv fd s.heap.objs.size f)) g { s with heap := h₁, toks := _ } rest _ _ () (Ok.deeper (Ok.le ok (by omega))) S1 trivial fun fl h2 tk2 g2 fv o2 hP S2 l2 r2 => ?_
  obtain ⟨F, o', rfl, hP⟩ := hP
  have S3 : Sim w (o' ++ rest) h2 g2 := S2.sublist (List.sublist_cons_self _ _)
  cases fv with
  | next => cases r2; exact K .none h2 tk2 g2 _ o' hP S3 l2 (VR.raw_iff.mpr rfl)
  | brk => cases r2; exact K .none h2 tk2 g2 _ o' hP S3 l2 (VR.raw_iff.mpr rfl)
  | cont => cases r2; exact K .none h2 tk2 g2 _ o' hP S3 l2 (VR.raw_iff.mpr rfl)
  | ret v => obtain ⟨c, rfl, r2⟩ := r2; exact K c h2 tk2 g2 _ o' hP S3 l2 r2

noncomputable def dxO (sl : Addr) : O := .such fun o => ∃ hsh t n, o = dictOf [⟨hsh, .str "comp_select_list" t, .ref sl⟩] n
noncomputable def others (h : Heap) (L dx : Addr) : List (Addr × Obj) := (List.range h.objs.size).filterMap fun b => if b = L ∨ b = dx then none else (h.get? b).map fun o => (b, o)
theorem others_mem {h : Heap} {L dx b : Addr} {o : Obj} : (b, o) ∈ others h L dx ↔ b ≠ L ∧ b ≠ dx ∧ h.get? b = some o := by
  unfold others
  rw [List.mem_filterMap]
  constructor
  · rintro ⟨a, ha, e⟩
    split at e
    · cases e
    · rename_i q
      rw [not_or] at q
      cases e' : h.get? a with
      | none => rw [e'] at e; cases e
      | some o' => rw [e'] at e; cases e; exact ⟨q.1, q.2, e'⟩
  · rintro ⟨h1, h2, h3⟩
    exact ⟨b, List.mem_range.mpr (Heap.lt_size h3), by rw [if_neg (by rw [not_or]; exact ⟨h1, h2⟩), h3]; rfl⟩

section
variable {w : World} {k : Nat} {env : Env} {own : Own}
theorem ws_init {L x dx sl : Addr} {ks : List (Str × V)} {p1 p2 p3 pos : Pos} {P : FV → Own → Prop}
    (h1 : ∀ {P : V → Own → Prop} {o : Own}, P (.ref x) ((L, .frame ks) :: o) → WE w k env (.Name "self" p1) ((L, .frame ks) :: o) P)
    (h2 : ∀ {P : V → Own → Prop} {o : Own}, P (.ref sl) ((L, .frame ks) :: o) → WE w k env (.Name "comp_select_list" p3) ((L, .frame ks) :: o) P)
    (h : P .next ((L, .frame ks) :: (dx, dxO sl) :: (x, .raw (instObj 115 dx)) :: own))
    (hs : swapsWith (.Name "comp_select_list" p3) (some (.Attribute (.Name "self" p1) "comp_select_list" p2)) pos.line env = pure false := by rfl) :
    WS w k env (.Assign [.Attribute (.Name "self" p1) "comp_select_list" p2] (.Name "comp_select_list" p3) pos) ((L, .frame ks) :: (dx, .raw emptyDict) :: (x, .raw (instObj 115 dx)) :: own) P := by
  intro A g s rest Q E c ok S i K
  refine plainObj_wpAny_Assign_Attribute (h2 (P := fun v o => v = .ref sl ∧ o = (L, .frame ks) :: (dx, .raw emptyDict) :: (x, .raw (instObj 115 dx)) :: own) ⟨rfl, rfl⟩ A g s rest _ _ () ok S trivial fun v hh1 tk1 g1 v1 o1 hv S1 l1 r1 => ?_) hs
  obtain ⟨rfl, rfl⟩ := hv
  rw [VR.raw_iff] at r1; subst r1
  refine h1 (P := fun v o => v = .ref x ∧ o = (L, .frame ks) :: (dx, .raw emptyDict) :: (x, .raw (instObj 115 dx)) :: own) ⟨rfl, rfl⟩ A g1 { s with heap := hh1, toks := tk1 } rest _ _ () ok S1 trivial fun v hh2 tk2 g2 v2 o2 hv S2 l2 r2 => ?_
  obtain ⟨rfl, rfl⟩ := hv
  rw [VR.raw_iff] at r2; subst r2
  obtain ⟨X, p, loose, mean, mg, mb, T, CA⟩ := S2.base
  obtain ⟨_, _, oL, hoL, rL⟩ := S2.ent (L, .frame ks) (by simp)
  obtain ⟨m, hm, hks⟩ := frame_ns hoL rL
  obtain ⟨_, _, od, hod, ed⟩ := S2.ent (dx, .raw emptyDict) (by simp)
  have ed' : od = emptyDict := ed
  subst ed'
  obtain ⟨_, _, ox, hox, ex⟩ := S2.ent (x, .raw (instObj 115 dx)) (by simp)
  have ex' : ox = instObj 115 dx := ex
  subst ex'
  have hne : dx ≠ L := fun e => by
    have := S2.nd
    simp [e] at this
  have X2 := X.keeps S2.sub
  have I : InstAt hh2 x (instObj 115 dx) 115 (some (dictOf [] 0)) := ⟨hox, rfl, rfl, hod⟩
  have e0 : ∀ b, (⟨#[], {}⟩ : Heap).get? b = none := fun b => by simp [Heap.get?]
  have F : Fr (⟨#[], {}⟩ : Heap) L hh2 m := ⟨hm, fun b o e => (by rw [e0] at e; cases e), Nat.zero_le _⟩
  have N : News (⟨#[], {}⟩ : Heap) L hh2 (others hh2 L dx ++ (dx, emptyDict) :: []) := by
    intro q hq
    rcases List.mem_append.mp hq with hq | hq
    · obtain ⟨a, b, c⟩ := others_mem.mp (show (q.1, q.2) ∈ _ from hq)
      exact ⟨c, a, e0 _⟩
    · rw [List.mem_singleton.mp hq]
      exact ⟨hod, hne, e0 _⟩
  refine set_plain (K := Mine.K w.params) X2 I rfl ?_
  refine osa_dict (s := { s with heap := hh2, toks := tk2 + 1 }) (od' := dictOf [⟨PyData.keyHash w.params "comp_select_list", .str "comp_select_list" (tk2 + 1), .ref sl⟩] 1) F N X2 I rfl rfl rfl rfl rfl
    (fun p hp => (others_mem.mp (show (p.1, p.2) ∈ _ from hp)).2.1) (fun p hp => nomatch hp) (putName_dict _ _ _ _ [] 0) rfl (show 1 ≤ 1000 from by decide) fun h' F' N' => ?_
  have hk : ∀ b o, b ∉ [L, dx] → hh2.get? b = some o → h'.get? b = some o := fun b o q e => by
    simp only [List.mem_cons, List.not_mem_nil, or_false, not_or] at q
    exact (N' (b, o) (List.mem_append_left _ (others_mem.mpr ⟨q.1, q.2, e⟩))).1
  have S3 : Sim w (([] ++ [(L, O.frame ks), (dx, dxO sl)]) ++ ((x, O.raw (instObj 115 dx)) :: own ++ rest)) h' g2 := by
    refine Sim.turns (pre := []) (mid := [(L, O.frame ks), (dx, O.raw emptyDict)]) (by simpa using S2) rfl hk fun q hq => ?_
    simp only [List.mem_cons, List.not_mem_nil, or_false] at hq
    rcases hq with rfl | rfl
    · obtain ⟨oL', es, ep, hoL', hdL, hkL, hmL⟩ := F'.ns
      exact ⟨oL', hoL', es, ep, hdL, hkL, fun y v e => by
        obtain ⟨c, hc, rc⟩ := hks y v e
        exact ⟨c, (hmL y).trans hc, rc⟩⟩
    · exact ⟨_, (N' (dx, dictOf [⟨PyData.keyHash w.params "comp_select_list", .str "comp_select_list" (tk2 + 1), .ref sl⟩] 1) (List.mem_append_right _ (.head _))).1, _, _, _, rfl⟩
  exact K .next h' _ g2 .next _ h (by simpa using S3) (StaysIn.trans l1 l2) rfl
end

theorem wc_TupleComp {w : World} {sl : Addr} {own : Own} {P : V → Own → Prop} (h : ∀ x dx, P (.ref x) (own ++ [(dx, dxO sl), (x, .raw (instObj 115 dx))])) : WC w 30 (.ref 115) [.ref sl] own P := by
  intro A g s rest Q E c ok S r K
  obtain ⟨y, r1, rfl, hy, hr⟩ := VRs.cons_iff.mp r
  rw [VRs.nil_iff] at hr; subst hr
  rw [VR.raw_iff] at hy; subst hy
  obtain ⟨hh, gg, d, t, os⟩ := s
  have X2 := S.base.1.keeps S.sub
  refine wpAny_call (make_core (C := 115) (makes_of X2 rfl) (looks_findIn X2 (r := some (.ref 105)) rfl) (fun self => bind_fn X2 self rfl) (.inl rfl) ?_)
  have S1 := Sim.pushE S emptyDict (x := .raw emptyDict) rfl
  have S2 := Sim.pushE S1 (instObj 115 hh.objs.size) (x := .raw (instObj 115 hh.objs.size)) rfl
  have S3 : Sim w (((hh.objs.size, .raw emptyDict) :: (hh.objs.size + 1, .raw (instObj 115 hh.objs.size)) :: own) ++ rest) ((hh.push emptyDict).push (instObj 115 hh.objs.size)) g := by
    have e : (hh.push emptyDict).objs.size = hh.objs.size + 1 := Heap.size_push ..
    rw [e] at S2
    refine S2.perm ?_
    refine List.Perm.append_right rest ?_
    rw [List.append_assoc]
    exact List.perm_append_comm
  have ok' : Ok (A.under (.builtin "type.__call__" ⟨[.ref 115, .ref sl], []⟩)) 26 := by
    obtain ⟨a, b, c⟩ := ok
    have w1 : (Code.builtin "type.__call__" ⟨[.ref 115, .ref sl], []⟩).weight ≤ 1 := by
      rw [show (Code.builtin "type.__call__" ⟨[.ref 115, .ref sl], []⟩).weight = 1 from by kernel_rfl]
      exact Nat.le_refl _
    have w2 : (Code.builtin "type.__call__" ⟨[.ref 115, .ref sl], []⟩).cUnits ≤ 4 := by
      rw [show (Code.builtin "type.__call__" ⟨[.ref 115, .ref sl], []⟩).cUnits = 1 from by kernel_rfl]
      decide
    refine ⟨a, ?_, ?_⟩
    · show A.depth + _ + 26 < _
      omega
    · show A.units + _ + 8 * 26 + 16 < _
      omega
  refine call_coreC (k := 18) (names := ["self", "comp_select_list"]) (vs := [.ref (hh.objs.size + 1), .ref sl]) (P := fun v o => v = .non ∧ o = (hh.objs.size, dxO sl) :: (hh.objs.size + 1, .raw (instObj 115 hh.objs.size)) :: own) (Ok.le ok' (by decide)) S3 (VRs.cons_iff.mpr ⟨_, _, rfl, VR.raw_iff.mpr rfl, VRs.cons_iff.mpr ⟨_, _, rfl, VR.raw_iff.mpr rfl, VRs.nil_iff.mpr rfl⟩⟩)
    (S3.base.1.keeps S3.sub 105 _ rfl) rfl (codeRec_of (S3.base.1.keeps S3.sub) rfl) rfl rfl rfl (by decide) (by decide) (fun L => ?_) (fun a h' tk g' b own' hP S' l' r' => ?_) rfl rfl rfl
  · refine wss_cons (ws_init (x := hh.objs.size + 1) (dx := hh.objs.size) (sl := sl) (own := own) (fun h => we_local h rfl) (fun h => we_local h rfl) ?_)
    walk_at "n"
    exact ⟨_, _, rfl, rfl, rfl⟩
  · obtain ⟨rfl, rfl⟩ := hP
    rw [VR.raw_iff] at r'; subst r'
    refine ⟨rfl, ?_⟩
    exact K (.ref (hh.objs.size + 1)) h' tk g' (.ref (hh.objs.size + 1)) _ (h _ _) (S'.perm (List.Perm.append_right rest (List.perm_append_comm (l₁ := [(hh.objs.size, dxO sl), (hh.objs.size + 1, O.raw (instObj 115 hh.objs.size))]) (l₂ := own)))) l' (VR.raw_iff.mpr rfl)

end

-- B16
set_option maxRecDepth 100000
set_option maxHeartbeats 1000000
section
section
variable {w : World} {k : Nat} {env : Env} {own : Own}
theorem inst_at {h g : Heap} {o : Own} {x dx sl : Addr} (S : Sim w o h g) (h1 : (x, O.raw (instObj 115 dx)) ∈ o) (h2 : (dx, dxO sl) ∈ o) : ∃ hsh t n, InstAt h x (instObj 115 dx) 115 (some (dictOf [⟨hsh, .str "comp_select_list" t, .ref sl⟩] n)) := by
  obtain ⟨_, _, od, hod, hsh, t, n, rfl⟩ := S.ent _ h2
  obtain ⟨_, _, ox, hox, ex⟩ := S.ent _ h1
  have ex' : ox = instObj 115 dx := ex
  subst ex'
  exact ⟨hsh, t, n, hox, rfl, rfl, hod⟩
theorem we_AttrOwn {y : Str} {yp pos : Pos} {P : V → Own → Prop} (h : WE w k env (.Name y yp) own fun v o1 => ∃ x dx sl, v = .ref x ∧ (x, O.raw (instObj 115 dx)) ∈ o1 ∧ (dx, dxO sl) ∈ o1 ∧ P (.ref sl) o1)
    (he : eval (.Attribute (.Name y yp) "comp_select_list" pos) env = (do
      let o ← eval (.Name y yp) env
      standAt pos.atName
      let r ← holding [o] (getAttr o "comp_select_list" true)
      letTemporaryGo (.Name y yp) o r
      pure r) := by with_unfolding_all rfl) : WE w k env (.Attribute (.Name y yp) "comp_select_list" pos) own P := by
  intro A g s rest Q E c ok S i K
  refine Attribute_Name_ (h A g s rest _ _ () ok S trivial fun v h1 tk1 g1 v1 o1 hv S1 l1 r1 => ?_) he
  obtain ⟨x, dx, sl, rfl, m1, m2, hP⟩ := hv
  rw [VR.raw_iff] at r1; subst r1
  obtain ⟨hsh, t, n, I⟩ := inst_at S1 (mem_app m1) (mem_app m2)
  refine get_value (K := Mine.K w.params) (s := { s with heap := h1, toks := tk1 }) (S1.base.1.keeps S1.sub) I rfl (findObj_own (attr := none) rfl rfl rfl (by rw [lookIn_dict]; rfl)) rfl ?_
  exact K (.ref sl) h1 _ g1 (.ref sl) o1 hP S1 l1 (VR.raw_iff.mpr rfl)
theorem we_compare {y : Str} {yp apos pos : Pos} {e : Expr} {r : List Expr} {P : V → Own → Prop} (h : WE w k env (.Name y yp) own fun v o1 => ∃ x dx sl, v = .ref x ∧ (x, O.raw (instObj 115 dx)) ∈ o1 ∧ (dx, dxO sl) ∈ o1 ∧ WEs w k env pos (e :: r) o1 fun vs o2 => WC w k (.ref 112) (.ref x :: vs) o2 P)
    (he : starEach (e :: r) env = (false, eval e env) :: starEach r env := by rfl) (hplain : (backTo pos (starEach r env)).any (·.1) = false := by rfl)
    (hc : ∃ pl, eval (.Call (.Attribute (.Name y yp) "compare" apos) (e :: r) [] pos) env = (do
      let ov ← eval (.Name y yp) env
      standAt apos.atName
      let (f, first) ← holding [ov] (getMethod ov "compare" pl)
      callWith pos f first (backTo pos (starEach (e :: r) env)) (backToKw pos (keywordEach [] env))) := by exact ⟨_, rfl⟩) : WE w k env (.Call (.Attribute (.Name y yp) "compare" apos) (e :: r) [] pos) own P := by
  intro A g s rest Q E c ok S i K
  obtain ⟨pl, hc⟩ := hc
  refine methodCall_KW (pl := pl) (h A g s rest _ _ () ok S trivial fun v h1 tk1 g1 v1 o1 hv S1 l1 r1 => ?_) hc
  obtain ⟨x, dx, sl, rfl, m1, m2, hP⟩ := hv
  rw [VR.raw_iff] at r1; subst r1
  obtain ⟨hsh, t, n, I⟩ := inst_at S1 (mem_app m1) (mem_app m2)
  refine method_fn (K := Mine.K w.params) (s := { s with heap := h1, toks := tk1 }) (f := 112) (S1.base.1.keeps S1.sub) I rfl rfl rfl rfl (by unfold shadowIn; dsimp only; rw [lookIn_dict]; rfl) ?_
  refine callWith_K (K := Mine.K w.params) (h₀ := g) S.base.1 rfl (hP A g1 { s with heap := h1, toks := tk1 } rest _ _ () ok S1 trivial fun a h2 tk2 g2 v2 o2 h S2 l2 r2 => ⟨(S2.base.1).keeps S2.sub, ?_⟩) he hplain
  exact h A g2 { s with heap := h2, toks := tk2 } rest _ _ (.ref x :: a) ok S2 (VRs.cons_iff.mpr ⟨_, _, rfl, VR.raw_iff.mpr rfl, r2⟩) fun a h3 tk3 g3 v3 o3 h S3 l3 r3 => K a h3 tk3 g3 v3 o3 h S3 (StaysIn.trans (StaysIn.trans l1 l2) l3) r3
end
noncomputable def cmpI (p s p' s' : Int) : Int := if p < p' then 1 else if p' < p then -1 else if s < s' then -1 else if s' < s then 1 else 0
noncomputable abbrev selV : List V := [.tup [.int 2, .int (-1)], .tup [.int 3, .int 1]]

theorem cmp_cases {x y p s x' y' p' s' : Int} {d d' : List (Int × Int)} {i : Nat} {v : V} (hv : selV[i]? = some v) (e1 : 1 ≤ i → p = p') (e2 : 2 ≤ i → s = s') : ∃ idx dir a b : Int, ∃ j : Nat, v = .tup [.int idx, .int dir] ∧ seqIndex? idx 5 = some j ∧ ([.int x, .int y, .int p, .int s, .dct d] : List V)[j]? = some (.int a) ∧ ([.int x', .int y', .int p', .int s', .dct d'] : List V)[j]? = some (.int b) ∧ -(2 ^ 63) ≤ idx ∧ idx < 2 ^ 63 ∧
    (a < b → cmpI p s p' s' = -dir) ∧ (¬ a < b → b < a → cmpI p s p' s' = dir) ∧ (¬ a < b → ¬ b < a → (1 ≤ i + 1 → p = p') ∧ (2 ≤ i + 1 → s = s')) := by
  match i, hv with
  | 0, hv =>
    cases hv
    refine ⟨2, -1, p, p', 2, rfl, rfl, rfl, rfl, by decide, by decide, fun h => ?_, fun h h' => ?_, fun h h' => ⟨fun _ => by omega, fun q => absurd q (by decide)⟩⟩
    · rw [cmpI, if_pos h]; rfl
    · rw [cmpI, if_neg h, if_pos h']
  | 1, hv =>
    cases hv
    obtain rfl := e1 (by decide)
    refine ⟨3, 1, s, s', 3, rfl, rfl, rfl, rfl, by decide, by decide, fun h => ?_, fun h h' => ?_, fun h h' => ⟨fun _ => rfl, fun _ => by omega⟩⟩
    · rw [cmpI, if_neg (Int.lt_irrefl _), if_neg (Int.lt_irrefl _), if_pos h]
    · rw [cmpI, if_neg (Int.lt_irrefl _), if_neg (Int.lt_irrefl _), if_neg h, if_pos h']
  | (i + 2), hv => simp at hv
theorem wc_compare {w : World} {X dx sl : Addr} {x y p s x' y' p' s' : Int} {d d' : List (Int × Int)} :
    WC w 40 (.ref 112) [.ref X, entV x y p s d, entV x' y' p' s' d'] [(sl, .list selV), (dx, dxO sl), (X, .raw (instObj 115 dx))] fun v o => v = .int (cmpI p s p' s') ∧ o = [(sl, .list selV), (dx, dxO sl), (X, .raw (instObj 115 dx))] := by
  generalize hc : cmpI p s p' s' = c
  refine wc_def (k := 38) (names := ["self", "left", "right"]) rfl rfl rfl (bind3 fun _ _ _ => rfl) rfl (by decide) (by decide) (fun L => Wg.abs fun C fin => ?_)
  refine Wg.dropPost ?_
  walk_at "n"
  refine ws_For_list (l := sl) (vs := selV) (fun i o => ∃ ks, o = [(L, O.frame ks), (sl, .list selV), (dx, dxO sl), (X, .raw (instObj 115 dx))] ∧ ((1 ≤ i → p = p') ∧ (2 ≤ i → s = s')) ∧ Lk ks "left" (entV x y p s d) ∧ Lk ks "right" (entV x' y' p' s' d')) ?_ ?_ ?_ ?_ ?_
  · refine we_AttrOwn ?_
    walk_at "n"
    exact ⟨X, dx, sl, rfl, by walk_at "mem", by walk_at "mem", rfl, _, rfl, ⟨fun h => absurd h (by decide), fun h => absurd h (by decide)⟩, by walk_at "lk", by walk_at "lk"⟩
  · rintro i o ⟨ks, rfl, _⟩
    walk_at "mem"
  · intro i v o hv hI
    refine Wg.abs fun D don => ?_
    obtain ⟨ks, rfl, ⟨e1, e2⟩, k1, k2⟩ := hI
    obtain ⟨idx, dir, a, b, j, rfl, f1, f2, f3, f4, f5, g1, g2, g3⟩ := cmp_cases (x := x) (y := y) (x' := x') (y' := y') (d := d) (d' := d') hv e1 e2
    rw [hc] at g1 g2
    clear e1 e2 hv hc
    walk_at "n"
    refine don _ _ (Wg.abs fun D2 don2 => ?_)
    clear don
    walk_at "n"
    refine w2_tup (v := .int a) ?_ f1 f2 f4 f5
    walk_at "n"
    refine w2_tup (v := .int b) ?_ f1 f3 f4 f5
    walk_at "n"
    clear f1 f2 f3 f4 f5
    by_cases h1 : a < b
    · refine if_T (decide_eq_true h1) ?_
      obtain rfl := g1 h1
      walk_at "n"
      exact don2 _ _ (loopP_ret ⟨[(L, _), (sl, _), (dx, _), (X, _)], by walk_at "sl", fin _ _ ⟨_, _, rfl, rfl, rfl⟩⟩)
    · refine if_F (decide_eq_false h1) ?_
      walk_at "n"
      by_cases h2 : b < a
      · refine if_T (decide_eq_true h2) ?_
        obtain rfl := g2 h1 h2
        walk_at "n"
        exact don2 _ _ (loopP_ret ⟨[(L, _), (sl, _), (dx, _), (X, _)], by walk_at "sl", fin _ _ ⟨_, _, rfl, rfl, rfl⟩⟩)
      · refine if_F (decide_eq_false h2) ?_
        walk_at "n"
        exact don2 _ _ (loopP_next ⟨_, rfl, g3 h1 h2, by walk_at "lk", by walk_at "lk"⟩)
  · rintro o ⟨ks, rfl, ⟨e1, e2⟩, k1, k2⟩
    have h0 : c = 0 := by
      rw [← hc, e1 (by decide), e2 (by decide), cmpI, if_neg (Int.lt_irrefl _), if_neg (Int.lt_irrefl _), if_neg (Int.lt_irrefl _), if_neg (Int.lt_irrefl _)]
    subst h0
    clear e1 e2 hc
    walk_at "n"
    exact ⟨[(L, _), (sl, _), (dx, _), (X, _)], by walk_at "sl", fin _ _ ⟨_, _, rfl, rfl, rfl⟩⟩
  · refine Or.inr ⟨_, _, _, rfl, mem2 ⟨_, rfl⟩ ⟨_, rfl⟩⟩

end

-- B17
set_option maxRecDepth 100000
set_option maxHeartbeats 1000000
section
structure Ent where
  x : Int
  y : Int
  p : Int
  s : Int
  d : List (Int × Int)
noncomputable abbrev Ent.v (e : Ent) : V := entV e.x e.y e.p e.s e.d
noncomputable def mapE (l : List (Int × Ent)) : List (Int × V) := l.map fun p => (p.1, p.2.v)
theorem storeE (l : List (Int × Ent)) (i : Int) (e : Ent) : storeD (mapE l) i e.v = mapE (storeD l i e) := by
  unfold storeD mapE
  have e1 : ((l.map fun p => (p.1, p.2.v)).any fun p => p.1 = i) = (l.any fun p => p.1 = i) := by rw [List.any_map]; rfl
  rw [e1]
  split
  · simp only [List.map_map]
    apply List.map_congr_left
    intro p _
    simp only [Function.comp]
    split <;> rfl
  · simp
theorem lookE (l : List (Int × Ent)) (i : Int) : lookD (mapE l) i = (lookD l i).map Ent.v := by
  unfold lookD mapE
  rw [List.find?_map]
  cases h : l.find? ((fun p : Int × V => decide (p.1 = i)) ∘ fun p => (p.1, p.2.v)) with
  | none =>
    have h' : l.find? (fun p => decide (p.1 = i)) = none := h
    rw [h']; rfl
  | some q =>
    have h' : l.find? (fun p => decide (p.1 = i)) = some q := h
    rw [h']; rfl
noncomputable def addE (t s : Ent) : Ent := ⟨s.x + t.x, s.y + t.y, s.p + t.p, s.s + t.s, addC t.d s.d⟩
noncomputable def better (f : Ent) : Option Ent → Bool
  | none => true
  | some b => decide (cmpI f.p f.s b.p b.s < 0)
noncomputable def stepPart (book : List (Int × Ent)) (name : Int) (best : Option Ent) (part : Int) : Option (Option Ent) :=
  match lookD book (name - part) with
  | none => some best
  | some a => match lookD book part with
    | none => none
    | some b => if 1000 < a.d.length || 1000 < b.d.length then none else if better (addE a b) best then some (some (addE a b)) else some best
noncomputable def stepPt (st : List Int × List (Int × Ent)) (pt : List Int) : Option (List Int × List (Int × Ent)) :=
  match pt with
  | [x, y] => if 1000 < st.1.length || 1000 < st.2.length || 1000 < x.natAbs then none else
    match st.1.foldlM (stepPart st.2 (64 * x + y)) none with
    | none => none
    | some none => some (st.1 ++ [64 * x + y], storeD st.2 (64 * x + y) ⟨x, y, 1, x * x, [(x, 1)]⟩)
    | some (some e) => some (st.1, storeD st.2 (64 * x + y) e)
  | _ => none
noncomputable def bookOf (pts : List (List Int)) : Option (List Int × List (Int × Ent)) := pts.foldlM stepPt ([], [])
noncomputable def bestV : Option Ent → V
  | none => .non
  | some e => e.v
theorem drop_cons {α : Type} {l : List α} {i : Nat} {a : α} (h : l[i]? = some a) : l.drop i = a :: l.drop (i + 1) := by
  obtain ⟨q, rfl⟩ := List.getElem?_eq_some_iff.mp h
  exact List.drop_eq_getElem_cons q

theorem heap_get {xs : List (List Int)} {i : Nat} {v : V} (h : (heapV xs)[i]? = some v) : ∃ t, xs[i]? = some t ∧ v = tupV t := by
  unfold heapV at h
  rw [List.getElem?_map] at h
  cases e : xs[i]? with
  | none => rw [e] at h; cases h
  | some t => rw [e] at h; cases h; exact ⟨t, rfl, rfl⟩
theorem ints_get {ds : List Int} {i : Nat} {v : V} (h : (intsV ds)[i]? = some v) : ∃ d, ds[i]? = some d ∧ v = .int d := by
  rw [List.getElem?_map] at h
  cases e : ds[i]? with
  | none => rw [e] at h; cases h
  | some d => rw [e] at h; cases h; exact ⟨d, rfl, rfl⟩
theorem pt_cases {pts : List (List Int)} {i : Nat} {v : V} {wh : List Int} {bo : List (Int × Ent)} {R : List Int × List (Int × Ent)} (hv : (heapV pts)[i]? = some v) (h : (pts.drop i).foldlM stepPt (wh, bo) = some R) :
    ∃ x y nm best, v = .tup [.int x, .int y] ∧ 64 * x + y = nm ∧ wh.length < 1000000 ∧ bo.length < 1000000 ∧ x.natAbs < 2 ^ 63 ∧ wh.foldlM (stepPart bo nm) none = some best ∧
      (best = none → (pts.drop (i + 1)).foldlM stepPt (wh ++ [nm], storeD bo nm ⟨x, y, 1, x * x, [(x, 1)]⟩) = some R) ∧ (∀ e, best = some e → (pts.drop (i + 1)).foldlM stepPt (wh, storeD bo nm e) = some R) := by
  obtain ⟨pt, hpt, rfl⟩ := heap_get hv
  rw [drop_cons hpt, List.foldlM_cons] at h
  obtain ⟨st, hst, h⟩ := Option.bind_eq_some_iff.mp h
  unfold stepPt at hst
  split at hst
  · rename_i x y
    by_cases hbad : (1000 < wh.length || 1000 < bo.length || 1000 < x.natAbs) = true
    · rw [if_pos hbad] at hst; cases hst
    · rw [if_neg hbad] at hst
      simp only [Bool.or_eq_true, decide_eq_true_eq, not_or] at hbad
      cases hb : wh.foldlM (stepPart bo (64 * x + y)) none with
      | none => simp only [hb] at hst; cases hst
      | some best =>
        simp only [hb] at hst
        refine ⟨x, y, _, best, rfl, rfl, by omega, by omega, by omega, hb, fun e => ?_, fun e e' => ?_⟩
        · subst e; cases hst; exact h
        · subst e'; cases hst; exact h
  · cases hst
theorem part_cases {wh : List Int} {j : Nat} {v : V} {bo : List (Int × Ent)} {nm : Int} {bs best : Option Ent} (hv : (intsV wh)[j]? = some v) (h : (wh.drop j).foldlM (stepPart bo nm) bs = some best) :
    ∃ part, v = .int part ∧ ((lookD bo (nm - part) = none ∧ (wh.drop (j + 1)).foldlM (stepPart bo nm) bs = some best) ∨
      (∃ ea eb, lookD bo (nm - part) = some ea ∧ lookD bo part = some eb ∧ ea.d.length ≤ 1000 ∧ eb.d.length ≤ 1000 ∧ (better (addE ea eb) bs = true → (wh.drop (j + 1)).foldlM (stepPart bo nm) (some (addE ea eb)) = some best) ∧ (better (addE ea eb) bs = false → (wh.drop (j + 1)).foldlM (stepPart bo nm) bs = some best))) := by
  obtain ⟨part, hpart, rfl⟩ := ints_get hv
  rw [drop_cons hpart, List.foldlM_cons] at h
  obtain ⟨bs', hb', h⟩ := Option.bind_eq_some_iff.mp h
  unfold stepPart at hb'
  refine ⟨part, rfl, ?_⟩
  cases hl1 : lookD bo (nm - part) with
  | none =>
    simp only [hl1] at hb'
    cases hb'
    exact .inl ⟨rfl, h⟩
  | some ea =>
    simp only [hl1] at hb'
    cases hl2 : lookD bo part with
    | none => simp only [hl2] at hb'; cases hb'
    | some eb =>
      simp only [hl2] at hb'
      by_cases hbad2 : (1000 < ea.d.length || 1000 < eb.d.length) = true
      · rw [if_pos hbad2] at hb'; cases hb'
      · rw [if_neg hbad2] at hb'
        simp only [Bool.or_eq_true, decide_eq_true_eq, not_or] at hbad2
        refine .inr ⟨ea, eb, rfl, rfl, by omega, by omega, fun e => ?_, fun e => ?_⟩
        · rw [if_pos e] at hb'; cases hb'; exact h
        · rw [if_neg (by simp [e])] at hb'; cases hb'; exact h
theorem wc_addE {w : World} {ea eb : Ent} (ht : ea.d.length ≤ 1000) (hs : eb.d.length ≤ 1000) : WC w 50 (.ref 126) [ea.v, eb.v] [] fun v o => v = (addE ea eb).v ∧ o = [] := wc_add_func_stats ht hs
theorem look_inE {bo : List (Int × Ent)} {i : Int} : ((mapE bo).any fun p => p.1 = i) = (lookD bo i).isSome := by
  rw [look_any, lookE]; cases lookD bo i <;> rfl
section
variable {w : World} {k : Nat} {env : Env} {own : Own}
theorem w2_addE {i j z : Int} {P : V → Own → Prop} (h : P (.int z) own) (e : i + j = z) : W2 w k (.int i) (.int j) (binaryOp .Add) (VR w) own P := w2_add (e.symm ▸ h)
theorem w3_dictE {own' : Own} {a : Addr} {kvs : List (Int × Ent)} {i : Int} {e : Ent} {P : Unit → Own → Prop} (h : P () own') (m : At a (.dict (mapE kvs)) (.dict (mapE (storeD kvs i e))) own own') (hn : kvs.length < 1000000) : W3 w k (.ref a) (.int i) e.v setItem UR own P :=
  w3_dict h (by rw [storeE]; exact m) (by unfold mapE; rw [List.length_map]; exact Nat.lt_trans hn (by decide))
theorem if_orB {e : Expr} {b1 : Bool} {P : Bool → Own → Prop} (b : Bool) (h1 : b1 = true → b = true) (h2 : b1 = false → (∀ c, c = b → P c own) → WB w k env e own P) (tail : P b own) : if b1 = true then P true own else WB w k env e own P := by
  cases b1 with
  | true => exact if_T rfl (h1 rfl ▸ tail)
  | false => exact h2 rfl fun c e => e ▸ tail
theorem if_or1 {b : Bool} {pos} {P : Bool → Own → Prop} (h : P b own) : if b = true then P true own else WB w k env (.BoolOp .Or [] pos) own P := by
  cases b with
  | true => exact h
  | false => exact wb_or_nil h
end
theorem wc_law_book {w : World} {pl : Addr} {pts : List (List Int)} {whole : List Int} {book : List (Int × Ent)} (h : bookOf pts = some (whole, book)) :
    WC w 80 (.ref 154) [.ref pl] [(pl, .list (heapV pts))] fun v o => ∃ wl bk, v = .tup [.ref wl, .ref bk] ∧ o = [(pl, .list (heapV pts)), (bk, .dict (mapE book)), (wl, .list (intsV whole))] := by
  refine wc_def (k := 78) (names := ["points"]) rfl rfl rfl (bind1 fun _ => rfl) rfl (by decide) (by decide) (fun L => Wg.abs fun C fin => ?_)
  refine Wg.dropPost ?_
  walk_at "n"
  refine cTup_i (show 2 < 16777216 from by decide) ?_
  walk_at "n"
  refine cTup_i (show 2 < 16777216 from by decide) ?_
  walk_at "n"
  refine cLst_i (show 2 < 16777216 from by decide) fun sl => ?_
  walk_at "n"
  refine Wg.le (k := 30) (wc_TupleComp fun X dx => ?_)
  walk_at "n"
  refine' fun bk => ?_
  walk_at "n"
  refine cLst_i (show 0 < 16777216 from by decide) fun wl => ?_
  walk_at "n"
  refine ws_For_list (l := pl) (vs := heapV pts) (fun i o => ∃ ks wh bo, o = [(L, O.frame ks), (pl, .list (heapV pts)), (sl, .list selV), (dx, dxO sl), (X, .raw (instObj 115 dx)), (bk, .dict (mapE bo)), (wl, .list (intsV wh))] ∧ (pts.drop i).foldlM stepPt (wh, bo) = some (whole, book) ∧
    Lk ks "order" (.ref X) ∧ Lk ks "book" (.ref bk) ∧ Lk ks "whole" (.ref wl)) ?_ ?_ ?_ ?_ ?_
  · walk_at "n"
    exact ⟨rfl, _, [], [], rfl, h, by walk_at "lk", by walk_at "lk", by walk_at "lk"⟩
  · rintro i o ⟨ks, wh, bo, rfl, _⟩
    walk_at "mem"
  · clear fin h
    intro i v o hv hI
    refine Wg.abs fun D don => ?_
    obtain ⟨ks, wh, bo, rfl, hinv, k1, k2, k3⟩ := hI
    obtain ⟨x, y, nm, best, rfl, en, s1, s2, s3, hbest, i1, i2⟩ := pt_cases hv hinv
    clear hinv hv
    walk_at "n"
    refine don _ _ (Wg.abs fun D2 don2 => ?_)
    clear don
    walk_at "n"
    refine w2_mul ?_ (by decide)
    walk_at "n"
    rw [en]
    clear en
    refine ws_For_list (l := wl) (vs := intsV wh) (fun j o => ∃ ks bs, o = [(L, O.frame ks), (pl, .list (heapV pts)), (sl, .list selV), (dx, dxO sl), (X, .raw (instObj 115 dx)), (bk, .dict (mapE bo)), (wl, .list (intsV wh))] ∧ (wh.drop j).foldlM (stepPart bo nm) bs = some best ∧
      Lk ks "order" (.ref X) ∧ Lk ks "book" (.ref bk) ∧ Lk ks "whole" (.ref wl) ∧ Lk ks "x" (.int x) ∧ Lk ks "y" (.int y) ∧ Lk ks "name" (.int nm) ∧ Lk ks "best" (bestV bs)) ?_ ?_ ?_ ?_ (.inl ⟨_, _, rfl⟩)
    · walk_at "n"
      exact ⟨rfl, _, none, rfl, hbest, by walk_at "lk", by walk_at "lk", by walk_at "lk", by walk_at "lk", by walk_at "lk", by walk_at "lk", by walk_at "lk"⟩
    · rintro j o ⟨ks, bs, rfl, _⟩
      walk_at "mem"
    · clear don2 i1 i2 s1 s2 s3 hbest k1 k2 k3
      intro j v o hv hI
      refine Wg.abs fun D don => ?_
      obtain ⟨ks, bs, rfl, hj, k1, k2, k3, k4, k5, k6, k7⟩ := hI
      obtain ⟨part, rfl, hcs⟩ := part_cases hv hj
      clear hj hv
      walk_at "n"
      refine don _ _ (Wg.abs fun D3 don3 => ?_)
      clear don
      walk_at "n"
      refine w2_in ?_ (by walk_at "mem")
      walk_at "n"
      rw [look_inE]
      rcases hcs with ⟨hl1, hj⟩ | ⟨ea, eb, hl1, hl2, t1, t2, j1, j2⟩
      · refine if_F (by rw [hl1]; rfl) ?_
        walk_at "n"
        exact don3 _ _ (loopP_next ⟨_, bs, rfl, hj, by walk_at "lk", by walk_at "lk", by walk_at "lk", by walk_at "lk", by walk_at "lk", by walk_at "lk", by walk_at "lk"⟩)
      · refine if_T (by rw [hl1]; rfl) ?_
        have hl1' : lookD (mapE bo) (nm - part) = some ea.v := by rw [lookE, hl1]; rfl
        have hl2' : lookD (mapE bo) part = some eb.v := by rw [lookE, hl2]; rfl
        have hfs := wc_addE (w := w) t1 t2
        clear t1 t2 hl1 hl2
        generalize addE ea eb = fd at *
        walk_at "n"
        refine w2_dict ?_ (by walk_at "mem") hl1'
        walk_at "n"
        refine w2_dict ?_ (by walk_at "mem") hl2'
        walk_at "n"
        refine Wg.use [false, false, false, false, false, false, false] hfs (post_eq ?_)
        clear hfs hl1' hl2'
        walk_at "i"
        refine Wg.abs fun Q q => ?_
        have tail : ∀ bs' ks, (wh.drop (j + 1)).foldlM (stepPart bo nm) bs' = some best → Lk ks "order" (.ref X) → Lk ks "book" (.ref bk) → Lk ks "whole" (.ref wl) → Lk ks "x" (.int x) → Lk ks "y" (.int y) → Lk ks "name" (.int nm) → Lk ks "best" (bestV bs') →
            Q .next [(L, O.frame ks), (pl, .list (heapV pts)), (sl, .list selV), (dx, dxO sl), (X, .raw (instObj 115 dx)), (bk, .dict (mapE bo)), (wl, .list (intsV wh))] := by
          intro bs' ks hj k1 k2 k3 k4 k5 k6 k7
          refine q _ _ ?_
          walk_at "n"
          exact don3 _ _ (loopP_next ⟨_, bs', rfl, hj, k1, k2, k3, k4, k5, k6, k7⟩)
        clear q don3
        refine xs_If ?_
        walk_at "n"
        refine w2_isnone ?_
        walk_at "n"
        refine if_orB (better fd bs) (fun h1 => ?_) (fun h1 h2 => ?_) ?_
        · cases bs with
          | none => rfl
          | some be => cases h1
        · clear tail j1 j2
          cases bs with
          | none => cases h1
          | some be =>
            refine Wg.abs fun D4 don4 => ?_
            walk_at "n"
            refine we_compare ?_
            walk_at "n"
            refine ⟨X, dx, sl, rfl, by walk_at "mem", by walk_at "mem", ?_⟩
            walk_at "n"
            refine Wg.use [false, false, true, true, true, false, false] (wc_compare (w := w) (X := X) (dx := dx) (sl := sl) (x := fd.x) (y := fd.y) (p := fd.p) (s := fd.s) (d := fd.d) (x' := be.x) (y' := be.y) (p' := be.p) (s' := be.s) (d' := be.d)) (post_eq ?_)
            walk_at "n"
            exact if_or1 (don4 _ _ (h2 _ rfl))
        · cases hb : better fd bs with
          | true =>
            refine if_T rfl ?_
            walk_at "n"
            exact tail (some fd) _ (j1 hb) (by walk_at "lk") (by walk_at "lk") (by walk_at "lk") (by walk_at "lk") (by walk_at "lk") (by walk_at "lk") (by walk_at "lk")
          | false =>
            refine if_F rfl ?_
            walk_at "n"
            exact tail bs _ (j2 hb) (by walk_at "lk") (by walk_at "lk") (by walk_at "lk") (by walk_at "lk") (by walk_at "lk") (by walk_at "lk") (by walk_at "lk")
    · intro o hI
      obtain ⟨ks, bs, rfl, hj, k1, k2, k3, k4, k5, k6, k7⟩ := hI
      rw [List.length_map, List.drop_length] at hj
      cases hj
      clear hbest
      walk_at "i"
      refine Wg.abs fun Q q => ?_
      have tail : ∀ e wh' ks, (pts.drop (i + 1)).foldlM stepPt (wh', storeD bo nm e) = some (whole, book) → Lk ks "order" (.ref X) → Lk ks "book" (.ref bk) → Lk ks "whole" (.ref wl) → Lk ks "name" (.int nm) → Lk ks "best" e.v →
          Q .next [(L, O.frame ks), (pl, .list (heapV pts)), (sl, .list selV), (dx, dxO sl), (X, .raw (instObj 115 dx)), (bk, .dict (mapE bo)), (wl, .list (intsV wh'))] := by
        intro e wh' ks hinv k1 k2 k3 k4 k5
        refine q _ _ ?_
        clear i1 i2 q
        walk_at "n"
        refine' w3_dictE ?_ ?hat s2
        case hat => walk_at "at"
        walk_at "n"
        exact don2 _ _ (loopP_next ⟨_, _, _, rfl, hinv, by walk_at "lk", by walk_at "lk", by walk_at "lk"⟩)
      clear q don2
      refine xs_If ?_
      walk_at "n"
      refine w2_isnone ?_
      walk_at "n"
      cases best with
      | none =>
        have hinv := i1 rfl
        clear i1 i2
        refine if_tt ?_
        walk_at "n"
        refine xe_append ?_
        walk_at "n"
        refine ex_mem (by walk_at "mem") ?_
        walk_at "n"
        refine exI_at nm (by walk_at "at") s1 ?_
        walk_at "n"
        refine w2_mul ?_ s3
        walk_at "n"
        refine we_freezeV ?_
        refine we_Dict1 ?_
        walk_at "n"
        refine ⟨x, rfl, fun tb => ?_⟩
        walk_at "n"
        refine ⟨tb, [(x, 1)], [(L, _), (pl, .list (heapV pts)), (sl, .list selV), (dx, dxO sl), (X, .raw (instObj 115 dx)), (bk, .dict (mapE bo)), (wl, .list (intsV (wh ++ [nm])))], [], rfl, rfl, ?_⟩
        walk_at "n"
        refine cTup_i (show 5 < 16777216 from by decide) ?_
        walk_at "n"
        exact tail ⟨x, y, 1, x * x, [(x, 1)]⟩ _ _ hinv (by walk_at "lk") (by walk_at "lk") (by walk_at "lk") (by walk_at "lk") (by walk_at "lk")
      | some e =>
        refine if_ff ?_
        walk_at "n"
        exact tail e wh _ (i2 e rfl) (by walk_at "lk") (by walk_at "lk") (by walk_at "lk") (by walk_at "lk") (by walk_at "lk")
  · rintro o ⟨ks, wh, bo, rfl, hinv, k1, k2, k3⟩
    rw [heapV_length, List.drop_length] at hinv
    cases hinv
    walk_at "n"
    refine cTup_i (show 2 < 16777216 from by decide) ?_
    walk_at "n"
    exact ⟨[(L, _), (pl, _), (bk, _), (wl, _)], by walk_at "sl", fin _ _ ⟨_, _, rfl, _, _, rfl, rfl⟩⟩
  · refine Or.inr ⟨_, _, _, rfl, ?_⟩
    intro v hv
    obtain ⟨t, _, rfl⟩ := List.mem_map.mp hv
    exact ⟨_, rfl⟩

end

-- B18
set_option maxRecDepth 100000
set_option maxHeartbeats 1000000
section
section
variable {w : World} {k : Nat} {env : Env} {own : Own}
theorem sum_any {A : Around} {E : Value → Shared → Prop} {s : Shared} {l : Addr} {vs : List Value} {ns : List Int} {Q : Value → Shared → Prop} (hh : A.handled = none) (hl : s.heap.IsList l (List.toArray vs)) (hi : IntsAre vs ns)
    (h : ∀ h' tk i t', (∀ b o, s.heap.get? b = some o → h'.get? b = some o) → Q (.int i t') { s with heap := h', toks := tk }) : wpAny (model PG w) A (call (.builtin "sum") [.ref l]) Q E s := by
  have hlt : l < s.heap.objs.size := by obtain ⟨_, e, _⟩ := hl; exact Heap.lt_size e
  refine call_sum_walkAnyS (wpAny_pyIter_list hl ?_)
  refine ⟨s.heap.objs.size, _, _, _, _, _, _, fun i => (ns[i]?).getD 0, rfl, (Walks.list (A := A.in1) hh s.heap.objs.size l (Nat.ne_of_lt hlt) (List.toArray vs)).toS, ⟨⟨_, Heap.get?_push_size _ rfl, rfl, rfl⟩, hl.push _⟩, fun b hb => ?_, fun i v hv => ?_, fun s' t' hm => ?_⟩
  · show b < (s.heap.push _).objs.size
    rw [Heap.size_push]
    rcases List.mem_cons.mp hb with rfl | hb
    · exact Nat.lt_succ_self _
    · rcases List.mem_cons.mp hb with rfl | hb
      · exact Nat.lt_succ_of_lt hlt
      · cases hb
  · obtain ⟨n, t, e, e2⟩ := hi.at i v (by simpa using hv)
    exact ⟨t, by rw [e]; show _ = Value.int (ns[i]?.getD 0) t; rw [e2]; rfl⟩
  · obtain ⟨hp', g', d', tk', os'⟩ := s'
    obtain ⟨m1, m2, m3, m4, m5⟩ := hm
    dsimp only at m1 m2 m3 m4
    subst m2 m3 m4
    refine h hp' tk' _ t' fun b o e => m1 b o (fun q => ?_) (Heap.get?_push_of_some _ e)
    rw [List.mem_singleton.mp q] at e
    exact absurd (Heap.lt_size e) (Nat.lt_irrefl _)
theorem wc_sum {b : Addr} {ms : List Int} {P : V → Own → Prop} (hm : (b, O.list (intsV ms)) ∈ own) (h : ∀ i, P (.int i) own) : WC w k (.builtin "sum") [.ref b] own P := by
  intro A g s rest Q E c ok S r K
  obtain ⟨y, r1, rfl, hy, hr⟩ := VRs.cons_iff.mp r
  rw [VRs.nil_iff] at hr; subst hr
  rw [VR.raw_iff] at hy; subst hy
  obtain ⟨cvs, hl, r⟩ := ent_intlist S (mem_app hm)
  exact sum_any ok.1 hl (ints_of r) fun h' tk i t' hk => K (.int i t') h' tk g (.int i) own (h i) (S.ext hk) (StaysIn.refl _) (VR.int_iff.mpr ⟨_, rfl⟩)
noncomputable def ncW (a : Addr) (oS : Obj) : O := .mon (fun g o => o.data = .cell none ∧ g.get? a = some oS) fun _ _ _ hk ⟨p, q⟩ => ⟨p, hk _ _ q⟩
noncomputable def scrOk (oS : Obj) : Prop := ∃ items n ns, oS.cls = .type "list" ∧ oS.data = .seq items n ∧ IntsAre items.toList ns ∧ items.size ≤ 63
theorem slice_fin {A : Around} {E : Value → Shared → Prop} {s : Shared} {g : Heap} {rest : Own} {Q : Value → Shared → Prop} {a sl cW : Addr} {oS : Obj} {vl : Value} {lo : Option Int} {t : Tok} {P : V → Own → Prop} (S : Sim w (own ++ rest) s.heap g) (hm : (cW, ncW a oS) ∈ own) (ho : scrOk oS)
    (hs : s.heap.IsSliceOf sl vl .none (.int 3 t)) (pl : IsPart vl lo) (h : ∀ b ms, P (.ref b) (own ++ [(b, .list (intsV ms))]))
    (K : ∀ a h' tk b own', P b own' → Sim w (own' ++ rest) h' g → VR w g b a → Q a { s with heap := h', toks := tk }) :
    s.TypeIs (.ref a) "list" ∧ wpAny (model PG w) A (getItem (.ref a) (.ref sl)) Q E s := by
  obtain ⟨items, n, ns, hcl, hda, hi, hsz⟩ := ho
  obtain ⟨_, _, o, _, _, hgo⟩ := S.ent _ (mem_app hm)
  have hoo := S.sub _ _ hgo
  have hl : s.heap.IsList a items := ⟨_, hoo, hcl, n, hda⟩
  refine ⟨hl.typeIs, wpAny_getItem_list_slice hl hs pl .none (.int 3 t) (by decide) ?_ (by rw [sizeLine_eq]; omega)⟩
  have hp := IntsAre.pick hi lo none (some 3)
  rw [Array.toArray_toList] at hp
  have S3 := S.pushE { cls := .type "list", data := .seq (slicePick items lo none (some 3)) } (x := .list (intsV (pickNums ns lo none (some 3)))) ⟨(slicePick items lo none (some 3)).toList, 0, by simp [W.listOf], of_ints hp⟩
  exact K _ _ s.toks (.ref s.heap.objs.size) _ (h _ _) S3 (VR.raw_iff.mpr rfl)
theorem we_sliceStep0 {value : Expr} {kk : Nat} {cp p pos : Pos} {P : V → Own → Prop} (h : WE w k env value own fun v o1 => ∃ a oS cW, v = .ref a ∧ (cW, ncW a oS) ∈ o1 ∧ scrOk oS ∧ ∀ b ms, P (.ref b) (o1 ++ [(b, .list (intsV ms))]))
    (ht : ∀ o r, letTemporaryGo value o r = pure () := by intro _ _; rfl) : WE w k env (.Subscript value (.Slice none none (some (.Constant (.int 3) kk cp)) p) pos) own P := by
  intro A g s rest Q E c ok S i K
  refine wpAny_Subscript_Slice_step F.slot_list_getitem.lookup (h A g s rest _ _ c ok S i fun x h1 tk1 g1 v1 o1 h S1 l1 r1 => ?_) ht
  obtain ⟨a, oS, cW, rfl, hm, ho, hP⟩ := h
  rw [VR.raw_iff] at r1; subst r1
  refine wpAny_Slice (wpAny_evalPart_none (wpAny_evalPart_none (wpAny_evalPart_some (wpAny_Constant_int ?_))))
  have S2 : Sim w (o1 ++ rest) (h1.push { cls := .type "slice", data := .fields #[.none, .none, .int 3 tk1] }) g1 := S1.ext fun b o e => Heap.get?_push_of_some _ e
  exact slice_fin (s := { s with heap := h1.push { cls := .type "slice", data := .fields #[.none, .none, .int 3 tk1] }, toks := tk1 + 1 }) S2 hm ho (t := tk1) ⟨_, Heap.get?_push_size _ rfl, rfl, rfl⟩ .none hP fun a h' tk b own' hP S' r' => K a h' tk g1 b own' hP S' l1 r'
theorem we_sliceStep1 {value : Expr} {n : Int} {kk k2 : Nat} {cp c2 p pos : Pos} {P : V → Own → Prop} (h : WE w k env value own fun v o1 => ∃ a oS cW, v = .ref a ∧ (cW, ncW a oS) ∈ o1 ∧ scrOk oS ∧ ∀ b ms, P (.ref b) (o1 ++ [(b, .list (intsV ms))]))
    (ht : ∀ o r, letTemporaryGo value o r = pure () := by intro _ _; rfl) : WE w k env (.Subscript value (.Slice (some (.Constant (.int n) k2 c2)) none (some (.Constant (.int 3) kk cp)) p) pos) own P := by
  intro A g s rest Q E c ok S i K
  refine wpAny_Subscript_Slice_step F.slot_list_getitem.lookup (h A g s rest _ _ c ok S i fun x h1 tk1 g1 v1 o1 h S1 l1 r1 => ?_) ht
  obtain ⟨a, oS, cW, rfl, hm, ho, hP⟩ := h
  rw [VR.raw_iff] at r1; subst r1
  refine wpAny_Slice (wpAny_evalPart_some (wpAny_Constant_int (wpAny_evalPart_none (wpAny_evalPart_some (wpAny_Constant_int ?_)))))
  have S2 : Sim w (o1 ++ rest) (h1.push { cls := .type "slice", data := .fields #[.int n tk1, .none, .int 3 (tk1 + 1)] }) g1 := S1.ext fun b o e => Heap.get?_push_of_some _ e
  exact slice_fin (s := { s with heap := h1.push { cls := .type "slice", data := .fields #[.int n tk1, .none, .int 3 (tk1 + 1)] }, toks := tk1 + 1 + 1 }) S2 hm ho (t := tk1 + 1) ⟨_, Heap.get?_push_size _ rfl, rfl, rfl⟩ (.int n tk1) hP fun a h' tk b own' hP S' r' => K a h' tk g1 b own' hP S' l1 r'
end
theorem Wg.unW {w : World} {k : Nat} {own : Own} {γ α β : Type} {In : Heap → γ → Prop} {t : γ → Sem α} {Rel : Heap → β → α → Prop} {P : β → Own → Prop} {pre post : Own} {c a : Addr} {oS : Obj} (he : own = pre ++ (c, ncW a oS) :: post)
    (h : Wg w k In t Rel (pre ++ (c, .nocell) :: post) P) : Wg w k In t Rel own P := by
  subst he
  intro A g s rest Q E cc ok S i K
  obtain ⟨_, _, o, ho, r, _⟩ := S.ent (c, ncW a oS) (by simp)
  have S1 : Sim w ((pre ++ [(c, O.nocell)]) ++ (post ++ rest)) s.heap g := by
    refine Sim.turns (mid := [(c, ncW a oS)]) (h := s.heap) (by simpa using S) rfl (fun b o _ e => e) fun q hq => ?_
    rw [List.mem_singleton.mp hq]
    exact ⟨o, ho, none, r⟩
  exact h A g s rest Q E cc ok (by simpa using S1) i K

end

-- B19
local macro_rules | `(tactic| walk_at "m") => `(tactic| first
  | ((with_reducible first | refine we_sliceStep0 ?_ ?ht | refine we_sliceStep1 ?_ ?ht); (case ht => (intro _ _; rfl)))
  | fail "m")
set_option maxRecDepth 100000
set_option maxHeartbeats 1000000
section
section
variable {w : World} {k : Nat} {env : Env} {own : Own}
theorem comp_start {elt target iter : Expr} {ifs : List Expr} {scope : Scope} {pos : Pos} {cl : List (Str × Addr)} {P : V → Own → Prop} (Inv : Value → Addr → Addr → Own → Prop)
    (hclos : closureFor scope env = pure cl) (hcell : ∀ y ∈ scope.names, y.2 ≠ .cell) (hkind : scope.kind = .function) (hnames : ∀ y ∈ scope.names, y.2 = .local → scope.names.lookup y.1 = some .local)
    (start : WE w k env iter own fun v o1 => W1 w k v pyIter (VR w) o1 fun u o2 => ∃ it, u = .raw it ∧ ∀ C D, Inv it C D ((C, .frame []) :: (D, .list []) :: o2))
    (self : ∀ it C D o, Inv it C D o → W1 w k (.raw it) pyIter (VR w) o fun u o' => u = .raw it ∧ Inv it C D o')
    (loop : ∀ (it : Value) (C D : Addr) (o : Own) (A : Around) (g : Heap) (s : Shared) (rest : Own) (R : Result → Shared → Prop), Inv it C D o → Ok A k → Sim w (o ++ rest) s.heap g →
      (∀ h' tk g' ks ys o', P (.ref D) (o' ++ [(D, .list ys)]) → Sim w (((C, .frame ks) :: (D, .list ys) :: o') ++ rest) h' g' → g.StaysIn g' → R (.ok .next) { s with heap := h', toks := tk }) →
      codeAny (model PG w) A (.compLoop (.ListComp elt [⟨target, iter, ifs, 0⟩] scope pos) 0 it (.ref D) (compEnvC scope cl C env)) R s)
    (hs : ∀ x, foldedSetIterable iter env x = pure x := by intro _; rfl) : WE w k env (.ListComp elt [⟨target, iter, ifs, 0⟩] scope pos) own P := by
  intro A g s rest Q E c ok S i K
  rw [eval_ListComp]
  refine wpAny_comprehension_free (use := none) rfl hs hclos hkind hnames (start A g s rest _ _ () ok S trivial fun a h1 tk1 g1 v1 o1 hW S1 l1 r1 => ?_)
  refine hW A g1 { s with heap := h1, toks := tk1 } rest _ _ a ok S1 r1 fun b h2 tk2 g2 u o2 hI S2 l2 r2 => ?_
  obtain ⟨it, rfl, hI⟩ := hI
  rw [VR.raw_iff] at r2; subst r2
  refine wpAny_newObj_type (wpAny_newFunctionEnv hcell (by intro y hy; simp at hy) (fun h₁ hns₁ hsb₁ => ?_) hkind)
  dsimp only at hns₁ hsb₁ ⊢
  have S3 := Sim.pushE S2 { cls := .type "list", dict := none, data := .seq ([] : List Value).toArray } (x := .list []) ⟨[], 0, rfl, rfl⟩
  generalize hH2 : h2.push { cls := .type "list", dict := none, data := .seq ([] : List Value).toArray } = H2 at hns₁ hsb₁ S3 ⊢
  have hk₁ : ∀ b o, H2.get? b = some o → h₁.get? b = some o := fun b o e => hsb₁.extBut b o (Nat.ne_of_lt (Heap.lt_size e)) (Heap.get?_push_of_some _ e)
  obtain ⟨oL, es, ep, hoL, hdL, hkL, hmL⟩ := hns₁
  have S4 : Sim w (((H2.objs.size, O.frame []) :: (h2.objs.size, O.list []) :: o2) ++ rest) h₁ g2 := by
    have S5 : Sim w (((H2.objs.size, O.frame []) :: (o2 ++ [(h2.objs.size, O.list [])])) ++ rest) h₁ g2 := by
      refine (S3.ext hk₁).cons S3.three S3.fresh_none hoL ⟨es, ep, hdL, hkL, fun x v e => by cases e⟩ fun q => ?_
      obtain ⟨p, hp, e⟩ := List.mem_map.mp q
      exact absurd (S3.lt hp) (e ▸ Nat.lt_irrefl _)
    refine S5.perm (List.Perm.append_right rest (List.Perm.cons _ ?_))
    exact List.perm_append_comm (l₁ := o2) (l₂ := [(h2.objs.size, O.list [])])
  have fin : ∀ (h3 : Heap) (tk3 : Nat) (g3 : Heap) (it' : Value) (o3 : Own), Inv it' H2.objs.size h2.objs.size o3 → Sim w (o3 ++ rest) h3 g3 → g.StaysIn g3 → codeAny (model PG w) A (.compLoop (.ListComp elt [⟨target, iter, ifs, 0⟩] scope pos) 0 it' (.ref h2.objs.size) (compEnvC scope cl H2.objs.size env)) (compPost (model PG w) A E none Q (.ref h2.objs.size) H2.objs.size) { s with heap := h3, toks := tk3 } := by
    intro h3 tk3 g3 it' o3 hI3 S6 l3
    refine loop it' H2.objs.size h2.objs.size o3 A g3 { s with heap := h3, toks := tk3 } rest _ hI3 ok S6 fun h' tk g' ks ys o' hP S' l' => ?_
    obtain ⟨_, _, oC, hoC, rC⟩ := S'.ent (H2.objs.size, O.frame ks) (by simp)
    obtain ⟨m, hm, _⟩ := frame_ns hoC rC
    refine ⟨m, hm, fun h'' hsb => ?_⟩
    have S7 : Sim w ([] ++ ((h2.objs.size, O.list ys) :: o' ++ rest)) h'' g' := by
      refine Sim.drops (pre := []) (mid := [(H2.objs.size, O.frame ks)]) (h := h') (by simpa using S') fun b o q e => hsb.extBut b o (by simpa using q) e
    have S8 : Sim w ((o' ++ [(h2.objs.size, O.list ys)]) ++ rest) h'' g' := by
      refine S7.perm ?_
      rw [List.nil_append]
      exact List.Perm.append_right rest (List.perm_append_comm (l₁ := [(h2.objs.size, O.list ys)]) (l₂ := o'))
    exact K (.ref h2.objs.size) h'' tk g' (.ref h2.objs.size) _ hP S8 (StaysIn.trans l3 l') (VR.raw_iff.mpr rfl)
  have lg := StaysIn.trans l1 l2
  refine codeAny_compStart_list (fin h₁ _ g2 b _ (hI _ _) S4 lg) ?_
  refine self b _ _ _ (hI H2.objs.size h2.objs.size) A g2 { s with heap := h₁, toks := _ } rest _ _ b ok S4 (VR.raw_iff.mpr rfl) fun b' h3 tk3 g3 u3 o3 hI3 S6 l6 r6 => ?_
  obtain ⟨rfl, hI3⟩ := hI3
  rw [VR.raw_iff] at r6; subst r6
  exact fin h3 tk3 g3 _ o3 hI3 S6 (StaysIn.trans lg l6)
end

end

-- B20
set_option maxRecDepth 100000
set_option maxHeartbeats 1000000
section
section
variable {w : World} {k : Nat} {env : Env} {own : Own}
theorem append_owned {A : Around} {E : Value → Shared → Prop} {s : Shared} {g : Heap} {rest o o' : Own} {D : Addr} {ys : List V} {u : V} {x : Value} {Q : Value → Shared → Prop} (S : Sim w (o ++ rest) s.heap g) (m : At D (.list ys) (.list (ys ++ [u])) o o') (hlen : ys.length < 16777216) (r : VR w g u x)
    (K : ∀ h', Sim w (o' ++ rest) h' g → Q .none { s with heap := h' }) : wpAny (model PG w) A (call (.builtin "list.append") [.ref D, x]) Q E s := by
  obtain ⟨_, ho2, ds, n2, rfl, rd⟩ := S.at (m.append rest)
  refine wpAny_list_append_plain ⟨n2, ho2⟩ (fun h' hl hs => ?_) (by rw [List.size_toArray, rd.length]; exact Nat.le_of_lt hlen)
  obtain ⟨n3, ho3⟩ := hl
  exact K h' (S.turnAt (m.append rest) hs ho3 ⟨ds ++ [x], n3, by simp, VRs.append rd (VRs.cons_iff.mpr ⟨x, [], rfl, r, VRs.nil_iff.mpr rfl⟩)⟩)
theorem we_ListComp0 {elt target iter : Expr} {scope : Scope} {pos : Pos} {cl : List (Str × Addr)} {P : V → Own → Prop} (n : Nat) (Inv : Value → Addr → Addr → Nat → Own → Prop)
    (hclos : closureFor scope env = pure cl) (hcell : ∀ y ∈ scope.names, y.2 ≠ .cell) (hkind : scope.kind = .function) (hnames : ∀ y ∈ scope.names, y.2 = .local → scope.names.lookup y.1 = some .local)
    (start : WE w k env iter own fun v o1 => W1 w k v pyIter (VR w) o1 fun u o2 => ∃ it, u = .raw it ∧ ∀ C D, Inv it C D 0 ((C, .frame []) :: (D, .list []) :: o2))
    (self : ∀ it C D o, Inv it C D 0 o → W1 w k (.raw it) pyIter (VR w) o fun u o' => u = .raw it ∧ Inv it C D 0 o')
    (turn : ∀ it C D i o, i ≤ n → Inv it C D i o → WNext w k target it o fun ov o1 => match ov with
      | none => ∃ ks ys o', o1 = (C, .frame ks) :: (D, .list ys) :: o' ∧ P (.ref D) (o' ++ [(D, .list ys)])
      | some v => i < n ∧ WA w k (compEnvC scope cl C env) target v o1 fun _ o2 => WE w k (compEnvC scope cl C env) elt o2 fun u o4 => ∃ ys o5, At D (.list ys) (.list (ys ++ [u])) o4 o5 ∧ ys.length < 16777216 ∧ Inv it C D (i + 1) o5)
    (hs : ∀ x, foldedSetIterable iter env x = pure x := by intro _; rfl) : WE w k env (.ListComp elt [⟨target, iter, [], 0⟩] scope pos) own P := by
  refine comp_start (fun it C D o => Inv it C D 0 o) hclos hcell hkind hnames start self (fun it C D o A g s rest R hI ok S K => ?_) hs
  let I : Nat → Shared → Prop := fun m s' => ∃ i o h' tk g', m = n + 1 - i ∧ i ≤ n ∧ Inv it C D i o ∧ s' = { s with heap := h', toks := tk } ∧ Sim w (o ++ rest) h' g' ∧ g.StaysIn g'
  refine kcp_loop I ?_ (n + 1) ⟨0, o, s.heap, s.toks, g, rfl, Nat.zero_le _, hI, rfl, S, StaysIn.refl _⟩
  rintro m s' ⟨i, o, h', tk, g', rfl, hi, hJ, rfl, S', l'⟩
  let EE : Value → Shared → Prop := notedBy (model PG w) A (compEnvC scope cl C env) fun e s' => R (.error e) s'
  let Qn : Option Value → Shared → Prop := fun r s₁ => match r with
    | none => R (.ok .next) s₁
    | some v => wpAny (model PG w) A (assign target (compEnvC scope cl C env) v) (fun _ s₂ => wpAny (model PG w) A (eval elt (compEnvC scope cl C env)) (fun x s₄ => wpAny (model PG w) A (call (.builtin "list.append") [.ref D, x]) (fun _ s₅ => ∃ m, m < n + 1 - i ∧ I m s₅) EE s₄) EE s₂) EE s₁
  refine wpAny_mono (turn it C D i o hi hJ A g' _ rest Qn EE EE ok S' fun ov h3 tk3 g3 v3 o3 h S3 l3 r3 => ?_) (fun r s₁ x => by cases r <;> exact x) fun _ _ x => x
  cases v3 with
  | none =>
    have e : ov = none := r3
    subst e
    obtain ⟨ks, ys, o', rfl, hP⟩ := h
    exact K h3 tk3 g3 ks ys o' hP S3 (StaysIn.trans l' l3)
  | some v =>
    obtain ⟨x, rfl, r3⟩ := r3
    obtain ⟨hlt, h⟩ := h
    refine h A g3 _ rest _ _ x ok S3 r3 fun _ h5 tk5 g5 _ o5 h S5 l5 _ => ?_
    refine h A g5 _ rest _ _ () ok S5 trivial fun f h6 tk6 g6 fv o6 h S6 l6 r6 => ?_
    obtain ⟨ys, o7, m7, hlen, hI7⟩ := h
    exact append_owned S6 m7 hlen r6 fun h7 S7 => ⟨n + 1 - (i + 1), by omega, i + 1, o7, h7, tk6, g6, rfl, by omega, hI7, rfl, S7, StaysIn.trans (StaysIn.trans l' l3) (StaysIn.trans l5 l6)⟩
theorem we_ListComp1 {elt target iter c : Expr} {scope : Scope} {pos : Pos} {cl : List (Str × Addr)} {P : V → Own → Prop} (n : Nat) (Inv : Value → Addr → Addr → Nat → Own → Prop)
    (hclos : closureFor scope env = pure cl) (hcell : ∀ y ∈ scope.names, y.2 ≠ .cell) (hkind : scope.kind = .function) (hnames : ∀ y ∈ scope.names, y.2 = .local → scope.names.lookup y.1 = some .local)
    (start : WE w k env iter own fun v o1 => W1 w k v pyIter (VR w) o1 fun u o2 => ∃ it, u = .raw it ∧ ∀ C D, Inv it C D 0 ((C, .frame []) :: (D, .list []) :: o2))
    (self : ∀ it C D o, Inv it C D 0 o → W1 w k (.raw it) pyIter (VR w) o fun u o' => u = .raw it ∧ Inv it C D 0 o')
    (turn : ∀ it C D i o, i ≤ n → Inv it C D i o → WNext w k target it o fun ov o1 => match ov with
      | none => ∃ ks ys o', o1 = (C, .frame ks) :: (D, .list ys) :: o' ∧ P (.ref D) (o' ++ [(D, .list ys)])
      | some v => i < n ∧ WA w k (compEnvC scope cl C env) target v o1 fun _ o2 => WB w k (compEnvC scope cl C env) c o2 fun b o3 => if b then WE w k (compEnvC scope cl C env) elt o3 fun u o4 => ∃ ys o5, At D (.list ys) (.list (ys ++ [u])) o4 o5 ∧ ys.length < 16777216 ∧ Inv it C D (i + 1) o5 else Inv it C D (i + 1) o3)
    (hs : ∀ x, foldedSetIterable iter env x = pure x := by intro _; rfl) : WE w k env (.ListComp elt [⟨target, iter, [c], 0⟩] scope pos) own P := by
  refine comp_start (fun it C D o => Inv it C D 0 o) hclos hcell hkind hnames start self (fun it C D o A g s rest R hI ok S K => ?_) hs
  let I : Nat → Shared → Prop := fun m s' => ∃ i o h' tk g', m = n + 1 - i ∧ i ≤ n ∧ Inv it C D i o ∧ s' = { s with heap := h', toks := tk } ∧ Sim w (o ++ rest) h' g' ∧ g.StaysIn g'
  refine kct_loop I ?_ (n + 1) ⟨0, o, s.heap, s.toks, g, rfl, Nat.zero_le _, hI, rfl, S, StaysIn.refl _⟩
  rintro m s' ⟨i, o, h', tk, g', rfl, hi, hJ, rfl, S', l'⟩
  let EE : Value → Shared → Prop := notedBy (model PG w) A (compEnvC scope cl C env) fun e s' => R (.error e) s'
  let Qn : Option Value → Shared → Prop := fun r s₁ => match r with
    | none => R (.ok .next) s₁
    | some v => wpAny (model PG w) A (assign target (compEnvC scope cl C env) v) (fun _ s₂ => wpAny (model PG w) A (isTrue c (compEnvC scope cl C env) (eval c (compEnvC scope cl C env))) (fun ok s₃ => if ok = true then wpAny (model PG w) A (eval elt (compEnvC scope cl C env)) (fun x s₄ => wpAny (model PG w) A (call (.builtin "list.append") [.ref D, x]) (fun _ s₅ => ∃ m, m < n + 1 - i ∧ I m s₅) EE s₄) EE s₃ else ∃ m, m < n + 1 - i ∧ I m s₃) EE s₂) EE s₁
  refine wpAny_mono (turn it C D i o hi hJ A g' _ rest Qn EE EE ok S' fun ov h3 tk3 g3 v3 o3 h S3 l3 r3 => ?_) (fun r s₁ x => by cases r <;> exact x) fun _ _ x => x
  cases v3 with
  | none =>
    have e : ov = none := r3
    subst e
    obtain ⟨ks, ys, o', rfl, hP⟩ := h
    exact K h3 tk3 g3 ks ys o' hP S3 (StaysIn.trans l' l3)
  | some v =>
    obtain ⟨x, rfl, r3⟩ := r3
    obtain ⟨hlt, h⟩ := h
    refine h A g3 _ rest _ _ x ok S3 r3 fun _ h5 tk5 g5 _ o5 h S5 l5 _ => ?_
    refine h A g5 _ rest _ _ () ok S5 trivial fun b h6 tk6 g6 bv o6 h S6 l6 r6 => ?_
    have r6' : b = bv := r6
    subst r6'
    cases b with
    | false => exact ⟨n + 1 - (i + 1), by omega, i + 1, o6, h6, tk6, g6, rfl, by omega, h, rfl, S6, StaysIn.trans (StaysIn.trans l' l3) (StaysIn.trans l5 l6)⟩
    | true =>
      refine h A g6 _ rest _ _ () ok S6 trivial fun f h7 tk7 g7 fv o7 h S7 l7 r7 => ?_
      obtain ⟨ys, o8, m8, hlen, hI8⟩ := h
      exact append_owned S7 m8 hlen r7 fun h8 S8 => ⟨n + 1 - (i + 1), by omega, i + 1, o8, h8, tk7, g7, rfl, by omega, hI8, rfl, S8, StaysIn.trans (StaysIn.trans l' l3) (StaysIn.trans (StaysIn.trans l5 l6) l7)⟩

/-- the next of a list's iterator, owned at the end -/
theorem next_list {target : Expr} {l I : Addr} {vs : List V} {i : Nat} {o : Own} {P : Option V → Own → Prop} (hm : (l, O.list vs) ∈ o) (hi : i ≤ vs.length) (ht : TargetOk target vs)
    (h0 : i = vs.length → P none o) (h1 : ∀ v, vs[i]? = some v → P (some v) (o ++ [(I, liO l (i + 1))])) : WNext w k target (.ref I) (o ++ [(I, liO l i)]) P := by
  intro A g s rest Q E E' ok S K
  obtain ⟨cvs, n, ho, r⟩ := ent_list S (mem_app (mem_app hm))
  have hl : s.heap.IsList l (List.toArray cvs) := ⟨_, ho, rfl, n, rfl⟩
  obtain ⟨oi, hoi, hc, hd⟩ := S.at (at_end (own := o) (a := I) (x := liO l i) (y := liO l (i + 1)) |>.append rest)
  have hit : s.heap.IsListIter I l i := ⟨oi, hoi, hc, hd⟩
  cases hx : vs[i]? with
  | none =>
    have hii : i = vs.length := by have := List.getElem?_eq_none_iff.mp hx; omega
    refine wpAny_pyNext_list_end ok.1 hit hl (by simpa using r.get_none hx) fun h' hb => ?_
    exact K none h' s.toks g none o (h0 hii) (S.drops fun b o q e => hb b o (fun z => q (by simp [z])) e) (StaysIn.refl _) rfl
  | some v =>
    obtain ⟨x, hcx, rx⟩ := r.get hx
    refine wpAny_pyNext_list_item hit hl (by simpa using hcx) fun h' hit' hsb => ?_
    obtain ⟨oi', hoi', hc', hd'⟩ := hit'
    have S1 := S.turnAt (at_end (own := o) (a := I) (x := liO l i) (y := liO l (i + 1)) |>.append rest) hsb hoi' ⟨hc', hd'⟩
    have K1 := K (some x) h' s.toks g (some v) (o ++ [(I, liO l (i + 1))]) (h1 v hx) S1 (StaysIn.refl _) ⟨x, rfl, rx⟩
    rcases ht with ⟨y, p, rfl⟩ | ⟨es, n, p, rfl, hv⟩
    · exact wpAny_pure K1
    · obtain ⟨us, rfl⟩ := hv v (List.mem_of_getElem? hx)
      obtain ⟨a, _, rfl, _⟩ := VR.tup_iff.mp rx
      exact wpAny_letOwnedTupleGo_listiter ⟨oi', hoi', hc', hd'⟩ K1
theorem iter_list {l : Addr} {vs : List V} {P : V → Own → Prop} (hm : (l, O.list vs) ∈ own) (h : ∀ I, P (.ref I) (own ++ [(I, liO l 0)])) : W1 w k (.ref l) pyIter (VR w) own P := by
  intro A g s rest Q E c ok S r K
  rw [VR.raw_iff] at r; subst r
  obtain ⟨cvs, n, ho, r⟩ := ent_list S (mem_app hm)
  have hl : s.heap.IsList l (List.toArray cvs) := ⟨_, ho, rfl, n, rfl⟩
  exact wpAny_pyIter_list hl (K _ _ s.toks g (.ref s.heap.objs.size) _ (h _) (S.pushE _ ⟨rfl, rfl⟩) (StaysIn.refl _) (VR.raw_iff.mpr rfl))
theorem self_list {l I : Addr} {i : Nat} {P : V → Own → Prop} (hm : (I, liO l i) ∈ own) (h : P (.ref I) own) : W1 w k (.ref I) pyIter (VR w) own P := by
  intro A g s rest Q E c ok S r K
  rw [VR.raw_iff] at r; subst r
  obtain ⟨_, _, oi, hoi, hc, hd⟩ := S.ent _ (mem_app hm)
  exact wpAny_pyIter_listiter ⟨oi, hoi, hc, hd⟩ (K _ s.heap s.toks g (.ref I) _ h S (StaysIn.refl _) (VR.raw_iff.mpr rfl))
end

end

-- B21
set_option maxRecDepth 100000
set_option maxHeartbeats 1000000
section
noncomputable def IsDictAt (w : World) (o : Obj) (cvs : List (Int × Value)) (ep : Nat) : Prop := ∃ es, o.ExactDict ∧ o.data = .dict es ep ∧ PySem.KeysOf (KI w) es ∧ Pairs (KI w) es.toList cvs ∧ (cvs.map (·.1)).Nodup
noncomputable def dictEp (w : World) (kvs : List (Int × V)) (ep : Nat) : O := .mon (fun g o => ∃ cvs, IsDictAt w o cvs ep ∧ KR w g kvs cvs) fun _ _ _ hk ⟨cvs, a, b⟩ => ⟨cvs, a, b.mono hk⟩
theorem dictEp_of {w : World} {g : Heap} {kvs : List (Int × V)} {o : Obj} (r : OR w g (.dict kvs) o) : ∃ ep, OR w g (dictEp w kvs ep) o := by
  obtain ⟨cvs, hd, hr⟩ := r
  obtain ⟨es, ep, h1, h2⟩ := hd
  exact ⟨ep, cvs, ⟨es, h1, h2⟩, hr⟩
theorem dictEp_to {w : World} {g : Heap} {kvs : List (Int × V)} {ep : Nat} {o : Obj} (r : OR w g (dictEp w kvs ep) o) : OR w g (.dict kvs) o := by
  obtain ⟨cvs, ⟨es, h1, h2⟩, hr⟩ := r
  exact ⟨cvs, ⟨es, ep, h1, h2⟩, hr⟩
theorem KR.get {w : World} {g : Heap} : ∀ {kvs : List (Int × V)} {cvs : List (Int × Value)}, KR w g kvs cvs → ∀ {i : Nat} {p : Int × V}, kvs[i]? = some p → ∃ c, cvs[i]? = some (p.1, c) ∧ VR w g p.2 c
  | [], _, _, _, _, e => by cases e
  | _ :: _, _, ⟨x, c', rfl, hx, _⟩, 0, _, e => by cases e; exact ⟨x, rfl, hx⟩
  | _ :: _, _, ⟨x, c', rfl, _, r⟩, i + 1, _, e => KR.get r e
section
variable {w : World} {k : Nat} {env : Env} {own : Own}
theorem Wg.epoch {γ α β : Type} {In : Heap → γ → Prop} {t : γ → Sem α} {Rel : Heap → β → α → Prop} {P : β → Own → Prop} {pre post : Own} {a : Addr} {kvs : List (Int × V)} (he : own = pre ++ (a, .dict kvs) :: post)
    (h : ∀ ep, Wg w k In t Rel (pre ++ (a, dictEp w kvs ep) :: post) (fun b o => ∃ o', At a (dictEp w kvs ep) (.dict kvs) o o' ∧ P b o')) : Wg w k In t Rel own P := by
  subst he
  intro A g s rest Q E c ok S i K
  obtain ⟨_, _, o, ho, r⟩ := S.ent (a, .dict kvs) (by simp)
  obtain ⟨ep, r'⟩ := dictEp_of r
  have S1 : Sim w ((pre ++ [(a, dictEp w kvs ep)]) ++ (post ++ rest)) s.heap g := by
    refine Sim.turns (mid := [(a, .dict kvs)]) (h := s.heap) (by simpa using S) rfl (fun b o _ e => e) fun q hq => ?_
    rw [List.mem_singleton.mp hq]
    exact ⟨o, ho, r'⟩
  refine h ep A g s rest Q E c ok (by simpa using S1) i fun v h' tk g' b own' ⟨o', m, hP⟩ S' l' r'' => ?_
  refine K v h' tk g' b o' hP ?_ l' r''
  obtain ⟨p1, p2, rfl, rfl⟩ := m.split
  obtain ⟨_, _, o2, ho2, r2⟩ := S'.ent (a, dictEp w kvs ep) (by simp)
  have S2 : Sim w ((p1 ++ [(a, .dict kvs)]) ++ (p2 ++ rest)) h' g' := by
    refine Sim.turns (mid := [(a, dictEp w kvs ep)]) (h := h') (by simpa using S') rfl (fun b o _ e => e) fun q hq => ?_
    rw [List.mem_singleton.mp hq]
    exact ⟨o2, ho2, dictEp_to r2⟩
  simpa using S2
noncomputable def vviewO (d : Addr) : O := .such fun o => o.cls = .type "dict_values" ∧ o.data = .fields #[.ref d]
noncomputable def viterO (d : Addr) (len ep i : Nat) : O := .such fun o => o.cls = .type "dict_valueiterator" ∧ o.data = .fields #[.ref d, .int i 0, .int len 0, .int ep 0]
theorem ent_ep {h g : Heap} {o : Own} {d : Addr} {kvs : List (Int × V)} {ep : Nat} (S : Sim w o h g) (hm : (d, dictEp w kvs ep) ∈ o) : (d == sysModules) = false ∧ ∃ cvs, h.DictAt (KI w) d cvs ep ∧ KR w g kvs cvs := by
  obtain ⟨h3, _, o, ho, cvs, ⟨es, r⟩, q⟩ := S.ent _ hm
  exact ⟨notSys h3, cvs, ⟨o, es, ho, r⟩, q⟩
theorem we_valuesE {o apos pos} {P : V → Own → Prop} (h : WE w k env o own fun v o1 => ∃ d kvs ep, v = .ref d ∧ (d, dictEp w kvs ep) ∈ o1 ∧ ∀ r, P (.ref r) (o1 ++ [(r, vviewO d)]))
    (hbase : attributeBase o "values" env (eval o env) = eval o env := by rfl) (hline : (apos.endLine == pos.line) = true := by rfl) : WE w k env (.Call (.Attribute o "values" apos) [] [] pos) own P := by
  intro A g s rest Q E c ok S i K
  refine Call_method0 hbase hline (h A g s rest _ _ c ok S i fun a h1 tk1 g1 v1 o1 h S1 l1 r1 => ?_)
  obtain ⟨d, kvs, ep, rfl, hmem, hP⟩ := h
  rw [VR.raw_iff] at r1; subst r1
  obtain ⟨z, cvs, hat, r⟩ := ent_ep S1 (mem_app hmem)
  have hm : h1.DictOf (KI w) d cvs := hat.dictOf
  refine ⟨"dict", "dict.values", F.plainAttrs_dict, F.slot_dict_values, F.type_dict_values, hm.typeIs (s := { s with heap := h1, toks := tk1 }), (fun a e => by cases e; exact hm.mapOf.noDict _ rfl), ?_⟩
  exact method_meetsIn F.slot_dict_values F.entry_dict_values rfl (PySem.evalArgs_none ⟨rfl, hm.typeIs (s := { s with heap := h1, toks := tk1 }), F.args_dict_values_1 _, _, meets_dict_values (KI w) d z, ⟨cvs, hm⟩,
    K _ _ _ g1 (.ref h1.objs.size) _ (hP _) (S1.pushE _ ⟨rfl, rfl⟩) l1 (VR.raw_iff.mpr rfl)⟩)
theorem iter_values {r d : Addr} {kvs : List (Int × V)} {ep : Nat} {P : V → Own → Prop} (hm : (d, dictEp w kvs ep) ∈ own) (hv : (r, vviewO d) ∈ own) (h : ∀ I, P (.ref I) (own ++ [(I, viterO d kvs.length ep 0)])) : W1 w k (.ref r) pyIter (VR w) own P := by
  intro A g s rest Q E c ok S rr K
  rw [VR.raw_iff] at rr; subst rr
  obtain ⟨_, cvs, hat, q⟩ := ent_ep S (mem_app hm)
  obtain ⟨_, _, oi, hoi, hc, hdd⟩ := S.ent _ (mem_app hv)
  refine wpAny_pyIter_values (knd := KI w) (d := d) (kvs := cvs) (ep := ep) ⟨oi, hoi, hc, hdd⟩ hat ?_
  exact K _ _ s.toks g (.ref s.heap.objs.size) _ (h _) (S.pushE _ ⟨rfl, by rw [← q.length]; rfl⟩) (StaysIn.refl _) (VR.raw_iff.mpr rfl)
theorem next_values {x : Str} {xp : Pos} {d I : Addr} {kvs : List (Int × V)} {ep i : Nat} {o : Own} {P : Option V → Own → Prop} (hm : (d, dictEp w kvs ep) ∈ o) (hi : i ≤ kvs.length)
    (h0 : i = kvs.length → P none o) (h1 : ∀ p, kvs[i]? = some p → P (some p.2) (o ++ [(I, viterO d kvs.length ep (i + 1))])) : WNext w k (.Name x xp) (.ref I) (o ++ [(I, viterO d kvs.length ep i)]) P := by
  intro A g s rest Q E E' ok S K
  obtain ⟨_, cvs, hat, q⟩ := ent_ep S (mem_app (mem_app hm))
  obtain ⟨oi, hoi, hc, hdd⟩ := at_last S
  rw [← q.length] at hdd
  have hit : s.heap.IsValIter I d i cvs.length ep := ⟨oi, hoi, hc, hdd⟩
  cases hx : kvs[i]? with
  | none =>
    have hii : i = kvs.length := by have := List.getElem?_eq_none_iff.mp hx; omega
    refine wpAny_pyNext_values_end ok.1 hit hat (List.getElem?_eq_none_iff.mpr (by rw [q.length]; omega)) fun h' hb => ?_
    exact K none h' s.toks g none o (h0 hii) (S.drops fun b o q e => hb b o (fun z => q (by simp [z])) e) (StaysIn.refl _) rfl
  | some p =>
    obtain ⟨y, hcx, ry⟩ : ∃ y, cvs[i]? = some (p.1, y) ∧ VR w g p.2 y := KR.get q hx
    refine wpAny_pyNext_values_item hit hat hcx fun h' hit' hsb => ?_
    obtain ⟨oi', hoi', hc', hd'⟩ := hit'
    have S1 := S.turnAt (at_end (own := o) (a := I) (x := viterO d kvs.length ep i) (y := viterO d kvs.length ep (i + 1)) |>.append rest) hsb hoi' ⟨hc', by rw [← q.length]; exact hd'⟩
    exact wpAny_pure (K (some y) h' s.toks g (some p.2) _ (h1 p hx) S1 (StaysIn.refl _) ⟨y, rfl, ry⟩)
theorem self_values {d I : Addr} {n ep i : Nat} {P : V → Own → Prop} (hm : (I, viterO d n ep i) ∈ own) (h : P (.ref I) own) : W1 w k (.ref I) pyIter (VR w) own P := by
  intro A g s rest Q E c ok S r K
  rw [VR.raw_iff] at r; subst r
  obtain ⟨_, _, oi, hoi, hc, hd⟩ := S.ent _ (mem_app hm)
  exact wpAny_pyIter_valiter (d := d) (i := i) (n := n) (ep := ep) ⟨oi, hoi, hc, hd⟩ (K _ s.heap s.toks g (.ref I) _ h S (StaysIn.refl _) (VR.raw_iff.mpr rfl))
end

end

-- B22
set_option maxRecDepth 100000
set_option maxHeartbeats 1000000
section
theorem dict_new (w : World) (g : Heap) : OR w g (.dict []) { cls := .type "dict", dict := none, data := .dict #[] } := by
  obtain ⟨o, ho, r⟩ := Heap.dictOf_iff.mp (Heap.DictOf.new (knd := KI w) g)
  rw [Heap.get?_push_size _ rfl] at ho
  cases ho
  exact ⟨[], r, rfl⟩
theorem dct_loop {w : World} {A : Around} {s : Shared} {kx vx target iter : Expr} {scope : Scope} {pos : Pos} {it : Value} {D : Addr} {env : Env} {R : Result → Shared → Prop} (I : Nat → Shared → Prop)
    (turn : ∀ n s, I n s → wpAny (model PG w) A (pyNext it) (fun r s₁ => match r with
      | none => R (.ok .next) s₁
      | some v => wpAny (model PG w) A (letOwnedTupleGo target it v) (fun _ s₀ => wpAny (model PG w) A (assign target env v) (fun _ s₂ =>
          wpAny (model PG w) A (eval kx env) (fun kv s₄ => wpAny (model PG w) A (eval vx env) (fun vv s₅ =>
              wpAny (model PG w) A (dictSet D kv vv) (fun _ s₆ => ∃ m, m < n ∧ I m s₆) (notedBy (model PG w) A env fun e s' => R (.error e) s') s₅) (notedBy (model PG w) A env fun e s' => R (.error e) s') s₄) (notedBy (model PG w) A env fun e s' => R (.error e) s') s₂)
          (notedBy (model PG w) A env fun e s' => R (.error e) s') s₀) (notedBy (model PG w) A env fun e s' => R (.error e) s') s₁) (notedBy (model PG w) A env fun e s' => R (.error e) s') s)
    (n : Nat) (h : I n s) : codeAny (model PG w) A (.compLoop (.DictComp kx vx [⟨target, iter, [], 0⟩] scope pos) 0 it (.ref D) env) R s := by
  refine codeAny_loop rfl I (fun n s hI => ?_) n h
  show wpAny _ A ((compTurn (.DictComp kx vx [⟨target, iter, [], 0⟩] scope pos) 0 it (.ref D) env).onRaise (fun x => do noteFrame x env; theTreesLotGoes x)) _ _ s
  refine wpAny_noted ?_
  rw [compTurn_dict]
  refine wpAny_bind (wpAny_standAt (wpAny_bind (wpAny_mono (turn n s hI) (fun r s₁ h₁ => ?_) fun _ _ h' => h')))
  cases r with
  | none => exact wpAny_pure h₁
  | some v =>
    refine wpAny_bind (wpAny_mono h₁ (fun _ s₀ h₀' => ?_) fun _ _ h' => h')
    refine wpAny_bind (wpAny_mono h₀' (fun _ s₂ h₂ => ?_) fun _ _ h' => h')
    refine wpAny_bind (wpAny_pure ?_)
    exact wpAny_bind (wpAny_bind (wpAny_mono h₂ (fun kv s₄ h₄ => wpAny_bind (wpAny_holding (wpAny_mono h₄ (fun vv s₅ h₅ => wpAny_bind (wpAny_standAt (wpAny_holding (wpAny_mono h₅ (fun _ s₆ h₆ => wpAny_pure ⟨rfl, h₆⟩) fun _ _ h' => h')))) fun _ _ h' => h'))) fun _ _ h' => h'))
section
variable {w : World} {k : Nat} {env : Env} {own : Own}
theorem dcomp_start {kx vx target iter : Expr} {ifs : List Expr} {scope : Scope} {pos : Pos} {cl : List (Str × Addr)} {P : V → Own → Prop} (Inv : Value → Addr → Addr → Own → Prop)
    (hclos : closureFor scope env = pure cl) (hcell : ∀ y ∈ scope.names, y.2 ≠ .cell) (hkind : scope.kind = .function) (hnames : ∀ y ∈ scope.names, y.2 = .local → scope.names.lookup y.1 = some .local)
    (start : WE w k env iter own fun v o1 => W1 w k v pyIter (VR w) o1 fun u o2 => ∃ it, u = .raw it ∧ ∀ C D, Inv it C D ((C, .frame []) :: (D, .dict []) :: o2))
    (self : ∀ it C D o, Inv it C D o → W1 w k (.raw it) pyIter (VR w) o fun u o' => u = .raw it ∧ Inv it C D o')
    (loop : ∀ (it : Value) (C D : Addr) (o : Own) (A : Around) (g : Heap) (s : Shared) (rest : Own) (R : Result → Shared → Prop), Inv it C D o → Ok A k → Sim w (o ++ rest) s.heap g →
      (∀ h' tk g' ks ys o', P (.ref D) (o' ++ [(D, .dict ys)]) → Sim w (((C, .frame ks) :: (D, .dict ys) :: o') ++ rest) h' g' → g.StaysIn g' → R (.ok .next) { s with heap := h', toks := tk }) →
      codeAny (model PG w) A (.compLoop (.DictComp kx vx [⟨target, iter, ifs, 0⟩] scope pos) 0 it (.ref D) (compEnvC scope cl C env)) R s)
    (hs : ∀ x, foldedSetIterable iter env x = pure x := by intro _; rfl) : WE w k env (.DictComp kx vx [⟨target, iter, ifs, 0⟩] scope pos) own P := by
  intro A g s rest Q E c ok S i K
  rw [arm_eval_DictComp]
  refine wpAny_comprehension_free (use := none) rfl hs hclos hkind hnames (start A g s rest _ _ () ok S trivial fun a h1 tk1 g1 v1 o1 hW S1 l1 r1 => ?_)
  refine hW A g1 { s with heap := h1, toks := tk1 } rest _ _ a ok S1 r1 fun b h2 tk2 g2 u o2 hI S2 l2 r2 => ?_
  obtain ⟨it, rfl, hI⟩ := hI
  rw [VR.raw_iff] at r2; subst r2
  refine wpAny_newObj_type (wpAny_newFunctionEnv hcell (by intro y hy; simp at hy) (fun h₁ hns₁ hsb₁ => ?_) hkind)
  dsimp only at hns₁ hsb₁ ⊢
  have S3 := Sim.pushE S2 { cls := .type "dict", dict := none, data := .dict #[] } (x := .dict []) (dict_new _ _)
  generalize hH2 : h2.push { cls := .type "dict", dict := none, data := .dict #[] } = H2 at hns₁ hsb₁ S3 ⊢
  have hk₁ : ∀ b o, H2.get? b = some o → h₁.get? b = some o := fun b o e => hsb₁.extBut b o (Nat.ne_of_lt (Heap.lt_size e)) (Heap.get?_push_of_some _ e)
  obtain ⟨oL, es, ep, hoL, hdL, hkL, hmL⟩ := hns₁
  have S4 : Sim w (((H2.objs.size, O.frame []) :: (h2.objs.size, O.dict []) :: o2) ++ rest) h₁ g2 := by
    have S5 : Sim w (((H2.objs.size, O.frame []) :: (o2 ++ [(h2.objs.size, O.dict [])])) ++ rest) h₁ g2 := by
      refine (S3.ext hk₁).cons S3.three S3.fresh_none hoL ⟨es, ep, hdL, hkL, fun x v e => by cases e⟩ fun q => ?_
      obtain ⟨p, hp, e⟩ := List.mem_map.mp q
      exact absurd (S3.lt hp) (e ▸ Nat.lt_irrefl _)
    refine S5.perm (List.Perm.append_right rest (List.Perm.cons _ ?_))
    exact List.perm_append_comm (l₁ := o2) (l₂ := [(h2.objs.size, O.dict [])])
  have fin : ∀ (h3 : Heap) (tk3 : Nat) (g3 : Heap) (it' : Value) (o3 : Own), Inv it' H2.objs.size h2.objs.size o3 → Sim w (o3 ++ rest) h3 g3 → g.StaysIn g3 → codeAny (model PG w) A (.compLoop (.DictComp kx vx [⟨target, iter, ifs, 0⟩] scope pos) 0 it' (.ref h2.objs.size) (compEnvC scope cl H2.objs.size env)) (compPost (model PG w) A E none Q (.ref h2.objs.size) H2.objs.size) { s with heap := h3, toks := tk3 } := by
    intro h3 tk3 g3 it' o3 hI3 S6 l3
    refine loop it' H2.objs.size h2.objs.size o3 A g3 { s with heap := h3, toks := tk3 } rest _ hI3 ok S6 fun h' tk g' ks ys o' hP S' l' => ?_
    obtain ⟨_, _, oC, hoC, rC⟩ := S'.ent (H2.objs.size, O.frame ks) (by simp)
    obtain ⟨m, hm, _⟩ := frame_ns hoC rC
    refine ⟨m, hm, fun h'' hsb => ?_⟩
    have S7 : Sim w ([] ++ ((h2.objs.size, O.dict ys) :: o' ++ rest)) h'' g' := by
      refine Sim.drops (pre := []) (mid := [(H2.objs.size, O.frame ks)]) (h := h') (by simpa using S') fun b o q e => hsb.extBut b o (by simpa using q) e
    have S8 : Sim w ((o' ++ [(h2.objs.size, O.dict ys)]) ++ rest) h'' g' := by
      refine S7.perm ?_
      rw [List.nil_append]
      exact List.Perm.append_right rest (List.perm_append_comm (l₁ := [(h2.objs.size, O.dict ys)]) (l₂ := o'))
    exact K (.ref h2.objs.size) h'' tk g' (.ref h2.objs.size) _ hP S8 (StaysIn.trans l3 l') (VR.raw_iff.mpr rfl)
  have lg := StaysIn.trans l1 l2
  refine codeAny_compStart_dict (fin h₁ _ g2 b _ (hI _ _) S4 lg) ?_
  refine self b _ _ _ (hI H2.objs.size h2.objs.size) A g2 { s with heap := h₁, toks := _ } rest _ _ b ok S4 (VR.raw_iff.mpr rfl) fun b' h3 tk3 g3 u3 o3 hI3 S6 l6 r6 => ?_
  obtain ⟨rfl, hI3⟩ := hI3
  rw [VR.raw_iff] at r6; subst r6
  exact fin h3 tk3 g3 _ o3 hI3 S6 (StaysIn.trans lg l6)

theorem we_DictComp0 {kx vx target iter : Expr} {scope : Scope} {pos : Pos} {cl : List (Str × Addr)} {P : V → Own → Prop} (n : Nat) (Inv : Value → Addr → Addr → Nat → Own → Prop)
    (hclos : closureFor scope env = pure cl) (hcell : ∀ y ∈ scope.names, y.2 ≠ .cell) (hkind : scope.kind = .function) (hnames : ∀ y ∈ scope.names, y.2 = .local → scope.names.lookup y.1 = some .local)
    (start : WE w k env iter own fun v o1 => W1 w k v pyIter (VR w) o1 fun u o2 => ∃ it, u = .raw it ∧ ∀ C D, Inv it C D 0 ((C, .frame []) :: (D, .dict []) :: o2))
    (self : ∀ it C D o, Inv it C D 0 o → W1 w k (.raw it) pyIter (VR w) o fun u o' => u = .raw it ∧ Inv it C D 0 o')
    (turn : ∀ it C D i o, i ≤ n → Inv it C D i o → WNext w k target it o fun ov o1 => match ov with
      | none => ∃ ks ys o', o1 = (C, .frame ks) :: (D, .dict ys) :: o' ∧ P (.ref D) (o' ++ [(D, .dict ys)])
      | some v => i < n ∧ WA w k (compEnvC scope cl C env) target v o1 fun _ o2 => WE w k (compEnvC scope cl C env) kx o2 fun z o3 => WE w k (compEnvC scope cl C env) vx o3 fun u o4 => ∃ key ys o5, z = .int key ∧ At D (.dict ys) (.dict (storeD ys key u)) o4 o5 ∧ ys.length < 16777216 ∧ Inv it C D (i + 1) o5)
    (hs : ∀ x, foldedSetIterable iter env x = pure x := by intro _; rfl) : WE w k env (.DictComp kx vx [⟨target, iter, [], 0⟩] scope pos) own P := by
  refine dcomp_start (fun it C D o => Inv it C D 0 o) hclos hcell hkind hnames start self (fun it C D o A g s rest R hI ok S K => ?_) hs
  let I : Nat → Shared → Prop := fun m s' => ∃ i o h' tk g', m = n + 1 - i ∧ i ≤ n ∧ Inv it C D i o ∧ s' = { s with heap := h', toks := tk } ∧ Sim w (o ++ rest) h' g' ∧ g.StaysIn g'
  refine dct_loop I ?_ (n + 1) ⟨0, o, s.heap, s.toks, g, rfl, Nat.zero_le _, hI, rfl, S, StaysIn.refl _⟩
  rintro m s' ⟨i, o, h', tk, g', rfl, hi, hJ, rfl, S', l'⟩
  let EE : Value → Shared → Prop := notedBy (model PG w) A (compEnvC scope cl C env) fun e s' => R (.error e) s'
  let Qn : Option Value → Shared → Prop := fun r s₁ => match r with
    | none => R (.ok .next) s₁
    | some v => wpAny (model PG w) A (assign target (compEnvC scope cl C env) v) (fun _ s₂ => wpAny (model PG w) A (eval kx (compEnvC scope cl C env)) (fun kv s₄ => wpAny (model PG w) A (eval vx (compEnvC scope cl C env)) (fun vv s₅ => wpAny (model PG w) A (dictSet D kv vv) (fun _ s₆ => ∃ m, m < n + 1 - i ∧ I m s₆) EE s₅) EE s₄) EE s₂) EE s₁
  refine wpAny_mono (turn it C D i o hi hJ A g' _ rest Qn EE EE ok S' fun ov h3 tk3 g3 v3 o3 h S3 l3 r3 => ?_) (fun r s₁ x => by cases r <;> exact x) fun _ _ x => x
  cases v3 with
  | none =>
    have e : ov = none := r3
    subst e
    obtain ⟨ks, ys, o', rfl, hP⟩ := h
    exact K h3 tk3 g3 ks ys o' hP S3 (StaysIn.trans l' l3)
  | some v =>
    obtain ⟨x, rfl, r3⟩ := r3
    obtain ⟨hlt, h⟩ := h
    refine h A g3 _ rest _ _ x ok S3 r3 fun _ h5 tk5 g5 _ o5 h S5 l5 _ => ?_
    refine h A g5 _ rest _ _ () ok S5 trivial fun kv h6 tk6 g6 kv' o6 h S6 l6 r6 => ?_
    refine h A g6 _ rest _ _ () ok S6 trivial fun vv h7 tk7 g7 vv' o7 h S7 l7 r7 => ?_
    obtain ⟨key, ys, o8, rfl, m8, hlen, hI8⟩ := h
    obtain ⟨t, rfl⟩ := VR.int_iff.mp r6
    obtain ⟨h3', cvs, hd, rr⟩ := at_dict S7 m8
    refine wpAny_dictSet_pairs (knd := KI w) (k := key) (key := .int key t) (by simp [intKind, Value.isInt]) hd (fun h' hd' hs => ?_) (by rw [rr.length]; exact Nat.le_of_lt hlen)
    obtain ⟨o9, ho9, q9⟩ := Heap.dictOf_iff.mp hd'
    exact ⟨n + 1 - (i + 1), by omega, i + 1, o8, h', _, g7, rfl, by omega, hI8, rfl, S7.turnAt (m8.append rest) hs ho9 ⟨_, q9, rr.store r7⟩, StaysIn.trans (StaysIn.trans l' l3) (StaysIn.trans l5 (StaysIn.trans l6 l7))⟩
end

end

-- B23
set_option maxRecDepth 100000
set_option maxHeartbeats 1000000
section
theorem take_snocA {α : Type} {l : List α} {i : Nat} {d : α} (h : l[i]? = some d) : l.take (i + 1) = l.take i ++ [d] := by
  obtain ⟨q, rfl⟩ := List.getElem?_eq_some_iff.mp h
  exact List.take_succ_eq_append_getElem q
noncomputable def wholeOf (b : Int) (row : List (List Int)) : List Int := row.filterMap fun v => match v with
  | [x, y] => if 2 * x + y ≤ b then some (64 * x + y) else none
  | _ => none
noncomputable def dcStep (row : List (List Int)) (acc : List (Int × Ent)) (pt : List Int) : Option (List (Int × Ent)) := match pt with
  | [x, y] => if x.natAbs ≤ 1000 ∧ y.natAbs ≤ 1000 ∧ acc.length ≤ 1000 then (sumR x y row).map fun r => storeD acc (64 * x + y) ⟨x, y, r.1, r.2.1, r.2.2⟩ else none
  | _ => none
noncomputable def dcOf (row pts : List (List Int)) : Option (List (Int × Ent)) := pts.foldlM (dcStep row) []
noncomputable def cntE (e : Ent) : Int := e.d.foldl (fun a p => a + p.2) 0
noncomputable def LawOk (n q : Int) (b : Nat) : Prop := ∃ pts whole book row dc f1 f2,
  ptsLoop (lowOf n q) b f1 [[1, 0, 1, 1]] [] = some pts ∧ bookOf pts = some (whole, book) ∧ rowLoop b f2 n q [] 0 1 1 0 = some row ∧ row.length ≤ 1000 ∧ book.length ≤ 1000 ∧ pts.length ≤ 1000 ∧ (∀ v ∈ row, ∃ x y, v = [x, y]) ∧
  pts = allG n q b ∧ whole = wholeOf b row ∧ book.map (fun p => cntE p.2) = book.map (fun p => p.2.p) ∧ dcOf row pts = some dc ∧ book.length = dc.length ∧
  ((mapE book).all fun p => match lookD (mapE dc) p.1 with | some v => eqV 6 p.2 v | none => false) = true
theorem eqV_ints (l : List Int) (n : Nat) : ((intsV l).zip (intsV l)).all (fun p => eqV (n + 1) p.1 p.2) = true := by
  induction l with
  | nil => rfl
  | cons a r ih => simp only [List.map_cons, List.zip_cons_cons, List.all_cons, ih, Bool.and_true]; simp [eqV]
theorem eqV_intsT (l : List Int) (n : Nat) : eqV (n + 2) (.tup (intsV l)) (.tup (intsV l)) = true := by
  simp only [eqV, beq_self_eq_true, Bool.true_and]; exact eqV_ints l n
theorem eqV_heapT (l : List (List Int)) : eqV 6 (.tup (heapV l)) (.tup (heapV l)) = true := by
  simp only [eqV, beq_self_eq_true, Bool.true_and]
  induction l with
  | nil => rfl
  | cons a r ih =>
    simp only [heapV, List.map_cons, List.zip_cons_cons, List.all_cons] at ih ⊢
    rw [ih, Bool.and_true]
    exact eqV_intsT a 3

theorem n_facts (i : Int) : ∃ n, 2 + (i + 5).fmod 999 = n ∧ 2 ≤ n ∧ n ≤ 1000 ∧ n - 1 ≠ 0 := by
  have h1 := Int.emod_nonneg (i + 5) (show (999 : Int) ≠ 0 from by decide)
  have h2 := Int.emod_lt_of_pos (i + 5) (show (0 : Int) < 999 from by decide)
  rw [Int.fmod_eq_emod_of_nonneg _ (by decide)]
  have h3 := Int.le_add_of_nonneg_right (a := 2) h1
  exact ⟨_, rfl, h3, Int.add_le_add_left (Int.le_of_lt_add_one (b := 998) h2) 2, fun e => Int.ne_of_gt (Int.lt_of_lt_of_le (by decide) h3) (Int.sub_eq_zero.mp e)⟩
theorem q_facts {n : Int} (h : 2 ≤ n) (i : Int) : ∃ q, 1 + (i + 4).fmod (n - 1) = q ∧ 1 ≤ q ∧ q < n := by
  have h1 := Int.emod_nonneg (i + 4) (show n - 1 ≠ 0 from by omega)
  have h2 := Int.emod_lt_of_pos (i + 4) (show 0 < n - 1 from by omega)
  rw [Int.fmod_eq_emod_of_nonneg _ (by omega)]
  exact ⟨_, rfl, by omega⟩
theorem b_facts (i : Int) : ∃ b : Nat, 6 + i.fmod 3 = (b : Int) ∧ 6 ≤ b ∧ b ≤ 8 := by
  have h1 := Int.emod_nonneg i (show (3 : Int) ≠ 0 from by decide)
  have h2 := Int.emod_lt_of_pos i (show (0 : Int) < 3 from by decide)
  rw [Int.fmod_eq_emod_of_nonneg _ (by decide)]
  obtain ⟨r, hr⟩ := Int.eq_ofNat_of_zero_le h1
  rw [hr] at h2 ⊢
  exact ⟨6 + r, rfl, Nat.le_add_right 6 r, Nat.add_le_add_left (Nat.le_of_lt_succ (Int.ofNat_lt.mp h2)) 6⟩
theorem heapV_tups (xs : List (List Int)) : ∀ v ∈ heapV xs, ∃ us, v = .tup us := fun v hv => by
  obtain ⟨t, _, rfl⟩ := List.mem_map.mp hv
  exact ⟨_, rfl⟩
theorem mapE_get {book : List (Int × Ent)} {i : Nat} {p : Int × V} (h : (mapE book)[i]? = some p) : ∃ e : Int × Ent, book[i]? = some e ∧ p = (e.1, e.2.v) ∧ i < book.length := by
  unfold mapE at h
  rw [List.getElem?_map] at h
  cases e : book[i]? with
  | none => rw [e] at h; cases h
  | some t => rw [e] at h; cases h; exact ⟨t, rfl, rfl, get_lt e⟩
theorem mapE_len (l : List (Int × Ent)) : (mapE l).length = l.length := by unfold mapE; rw [List.length_map]
theorem snoc_ints {l : List (Int × Ent)} {i : Nat} {e : Int × Ent} (f : Int × Ent → Int) (h : l[i]? = some e) : intsV ((l.take i).map f) ++ [V.int (f e)] = intsV ((l.take (i + 1)).map f) := by
  rw [take_snocA h]; simp
theorem snoc_len {l : List (Int × Ent)} {i : Nat} (f : Int × Ent → Int) (h : l.length ≤ 1000) : (intsV ((l.take i).map f)).length < 16777216 := by
  rw [List.length_map, List.length_map, List.length_take]; omega
theorem row_elt {b : Int} {row : List (List Int)} {i : Nat} {v : V} (hl : row.length ≤ 1000) (hr : ∀ v ∈ row, ∃ x y, v = [x, y]) (hv : (heapV row)[i]? = some v) : ∃ x y, v = .tup [.int x, .int y] ∧ i < row.length ∧ (intsV (wholeOf b (row.take i))).length < 16777216 ∧
    (2 * x + y ≤ b → intsV (wholeOf b (row.take i)) ++ [V.int (64 * x + y)] = intsV (wholeOf b (row.take (i + 1)))) ∧ (¬ 2 * x + y ≤ b → wholeOf b (row.take i) = wholeOf b (row.take (i + 1))) := by
  obtain ⟨t, ht, rfl⟩ := heap_get hv
  obtain ⟨x, y, rfl⟩ := hr t (List.mem_of_getElem? ht)
  refine ⟨x, y, rfl, get_lt ht, ?_, fun hc => ?_, fun hc => ?_⟩
  · rw [List.length_map]
    exact Nat.lt_of_le_of_lt (Nat.le_trans (List.length_filterMap_le _ _) (by rw [List.length_take]; exact Nat.min_le_right _ _)) (Nat.lt_of_le_of_lt hl (by decide))
  · rw [take_snocA ht]; simp [wholeOf, List.filterMap_append, hc]
  · rw [take_snocA ht]; simp [wholeOf, List.filterMap_append, hc]
theorem dc_cases {row pts : List (List Int)} {i : Nat} {v : V} {acc dc : List (Int × Ent)} (hv : (heapV pts)[i]? = some v) (h : (pts.drop i).foldlM (dcStep row) acc = some dc) : ∃ x y p s t, v = .tup [.int x, .int y] ∧ i < pts.length ∧ x.natAbs ≤ 1000 ∧ y.natAbs ≤ 1000 ∧ acc.length < 1000000 ∧ sumR x y row = some (p, s, t) ∧
    (pts.drop (i + 1)).foldlM (dcStep row) (storeD acc (64 * x + y) ⟨x, y, p, s, t⟩) = some dc := by
  obtain ⟨pt, hpt, rfl⟩ := heap_get hv
  rw [drop_cons hpt, List.foldlM_cons] at h
  obtain ⟨acc', hst, h⟩ := Option.bind_eq_some_iff.mp h
  unfold dcStep at hst
  split at hst
  · rename_i x y
    by_cases hsm : x.natAbs ≤ 1000 ∧ y.natAbs ≤ 1000 ∧ acc.length ≤ 1000
    · rw [if_pos hsm] at hst
      obtain ⟨⟨p1, p2, p3⟩, hsr, hst2⟩ := Option.map_eq_some_iff.mp hst
      subst hst2
      exact ⟨x, y, p1, p2, p3, rfl, get_lt hpt, hsm.1, hsm.2.1, Nat.lt_of_le_of_lt hsm.2.2 (by decide), hsr, h⟩
    · rw [if_neg hsm] at hst; cases hst
  · cases hst
theorem ex_dictE {D : Addr} {acc : List (Int × Ent)} {key : Int} {e : Ent} {o4 o5 : Own} {Q : Own → Prop} (m : At D (.dict (mapE acc)) (.dict (mapE (storeD acc key e))) o4 o5) (hl : acc.length < 1000000) (h : Q o5) :
    ∃ key' ys o5, V.int key = .int key' ∧ At D (.dict ys) (.dict (storeD ys key' e.v)) o4 o5 ∧ ys.length < 16777216 ∧ Q o5 :=
  ⟨key, mapE acc, o5, rfl, by rw [storeE]; exact m, by rw [mapE_len]; exact Nat.lt_trans hl (by decide), h⟩
theorem post_ex2 {α ι κ : Type} {P : α → Own → Prop} {f : ι → κ → α} {g : ι → κ → Own} (h : ∀ i j, P (f i j) (g i j)) : ∀ v o, (∃ i j, v = f i j ∧ o = g i j) → P v o := fun _ _ ⟨i, j, e1, e2⟩ => e1 ▸ e2 ▸ h i j
theorem law_range {n q : Int} {b : Nat} (h1 : 2 ≤ n) (h2 : n ≤ 1000) (h3 : 1 ≤ q) (h4 : q < n) : 0 ≤ q ∧ q < 1000 ∧ q < 1001 ∧ 0 < n ∧ n < 1001 :=
  have h5 := Int.lt_of_lt_of_le h4 h2
  ⟨Int.le_trans (by decide) h3, h5, Int.lt_trans h5 (by decide), Int.lt_of_lt_of_le (by decide) h1, Int.lt_of_le_of_lt h2 (by decide)⟩

theorem law_walk {w : World} {oc : Value} {od : Option Addr} {osl : Array (Option Value)} {fd : FuncData} {body : List Stmt} (hl : (Mine.K w.params).lookup 180 = some ⟨oc, od, .func fd, osl⟩) (hb : fd.body = .stmts body)
    (law : ∀ (n q : Int) (b : Nat), 2 ≤ n → n ≤ 1000 → 1 ≤ q → q < n → 6 ≤ b → b ≤ 8 → LawOk n q b)
    {L fa sA : Addr} {cd : Value} {oS : Obj} (ho : scrOk oS) :
    WSs w 600 (envOfC fd.name fd.scope L fa cd) body [(L, .frame [("script", .ref sA)]), (L + 1, .nocell), (L + 2, ncW sA oS), (37, T37), (30, T30)] fun fl o => fl = .ret (.bool true) ∧ (37, T37) ∈ o ∧ (30, T30) ∈ o := by
  rw [show (Mine.K w.params).lookup 180 = some _ from rfl] at hl
  cases hl
  cases hb
  refine Wg.abs fun P0 fin => ?_
  walk_at "n"
  refine ⟨sA, oS, L + 2, rfl, by walk_at "mem", ho, fun b1 m1 => ?_⟩
  walk_at "n"
  refine wc_sum (by walk_at "mem") fun i1 => ?_
  walk_at "n"
  refine w2_mod ?_ (by decide)
  walk_at "n"
  obtain ⟨n, hn, n1, n2, n3⟩ := n_facts i1
  rw [hn]
  clear hn
  refine ⟨sA, oS, L + 2, rfl, by walk_at "mem", ho, fun b2 m2 => ?_⟩
  walk_at "n"
  refine wc_sum (by walk_at "mem") fun i2 => ?_
  walk_at "n"
  refine w2_mod ?_ n3
  walk_at "n"
  obtain ⟨q, hq, q1, q2⟩ := q_facts n1 i2
  rw [hq]
  clear hq n3
  refine ⟨sA, oS, L + 2, rfl, by walk_at "mem", ho, fun b3 m3 => ?_⟩
  walk_at "n"
  refine wc_sum (by walk_at "mem") fun i3 => ?_
  walk_at "n"
  refine w2_mod ?_ (by decide)
  walk_at "n"
  obtain ⟨b, hb, g1, g2⟩ := b_facts i3
  rw [hb]
  obtain ⟨pts, whole, book, row, dc, f1, f2, hpts, hbook, hrow, hl1, hl2, hl3, hr2, c1, c2, c3, hdc, c4, c5⟩ := law n q b n1 n2 q1 q2 g1 g2
  obtain ⟨r1, r2, r3, r4, r5⟩ := law_range (b := b) n1 n2 q1 q2
  clear law hb g1 n1 n2 q1 q2
  (refine' w1_store_cell ?_ ?hc ?hm ?ho ?hk ?hl); (case hk => exact rfl); (case hl => exact rfl); (case hc => exact rfl); (case hm => walk_at "at"); (case ho => exact .inl rfl)
  walk_at "n"
  refine Wg.drop (own₀ := [(L, .frame (setK "q" (.int q) (setK "n" (.int n) [("script", .ref sA)]))), (L + 1, .cell (.int b)), (L + 2, ncW sA oS), (37, T37), (30, T30)]) ?_ (by walk_at "sl")
  refine Wg.unW (c := L + 2) (a := sA) (oS := oS) (pre := [(L, .frame (setK "q" (.int q) (setK "n" (.int n) [("script", .ref sA)]))), (L + 1, .cell (.int b))]) (post := [(37, T37), (30, T30)]) rfl ?_
  dsimp only [List.cons_append, List.nil_append]
  refine Wg.use [false, false, false, true, true] (wc_law_points (w := w) (n := n) (q := q) (bound := b) (f := f1) r1 r2 r4 r5 hpts) (post_ex fun pl => ?_)
  walk_at "n"
  refine Wg.use [false, false, false, false, false, true] (wc_law_book (w := w) (pl := pl) hbook) (post_ex2 fun wl bk => ?_)
  walk_at "n"
  refine Wg.use [false, false, false, true, true] (wc_law_row (w := w) (n := n) (q := q) (bound := b) (f := f2) r1 r3 r4 r5 hrow) (post_ex fun rl => ?_)
  walk_at "n"
  (refine' w1_store_cell ?_ ?hc ?hm ?ho ?hk ?hl); (case hk => exact rfl); (case hl => exact rfl); (case hc => exact rfl); (case hm => walk_at "at"); (case ho => exact .inl rfl)
  walk_at "n"
  refine Wg.use [false, false, false, false, false, false, false, false, false] (wc_law_all (w := w) (n := n) (q := q) (b := b) g2 r1 r3 r4 r5) (post_ex fun al => ?_)
  walk_at "n"
  refine w2_ne_list (xs := heapV pts) (ys := heapV (allG n q b)) ?_ (by walk_at "mem") (by walk_at "mem") (by rw [← c1]; exact eqV_heapT pts)
  walk_at "n"
  generalize hks : (setK "book" (V.ref bk) (setK "whole" (V.ref wl) (setK "points" (V.ref pl) (setK "q" (V.int q) (setK "n" (V.int n) [("script", V.ref sA)]))))) = KS
  have kb : Lk KS "book" (.ref bk) := by rw [← hks]; walk_at "lk"
  have kw : Lk KS "whole" (.ref wl) := by rw [← hks]; walk_at "lk"
  have kp : Lk KS "points" (.ref pl) := by rw [← hks]; walk_at "lk"
  clear hks hpts hbook hrow r1 r2 r3 r4 r5 c1 g2
  refine Wg.drop (own₀ := [(L, .frame KS), (L + 1, .cell (.int b)), (L + 1 + 1, .cell (.ref rl)), (37, T37), (30, T30), (rl, .list (heapV row)), (pl, .list (heapV pts)), (bk, .dict (mapE book)), (wl, .list (intsV whole))]) ?_ (by walk_at "sl")
  -- the whole points of the row
  refine Wg.use [false, true, true, false, false, true, false, false, false] (k' := 600) (own₀ := [(L + 1, .cell (.int b)), (L + 1 + 1, .cell (.ref rl)), (rl, .list (heapV row))]) (P₀ := fun v o => ∃ D, v = .ref D ∧ o = [(L + 1, .cell (.int b)), (L + 1 + 1, .cell (.ref rl)), (rl, .list (heapV row)), (D, .list (intsV (wholeOf b row)))]) ?_ (post_ex fun D => ?_)
  · clear fin kb kw kp hdc c5
    refine we_ListComp1 row.length (fun it C D i o => ∃ I ks, it = .ref I ∧ o = ((C, .frame ks) :: (D, .list (intsV (wholeOf b (row.take i)))) :: [(L + 1, .cell (.int b)), (L + 1 + 1, .cell (.ref rl)), (rl, .list (heapV row))]) ++ [(I, liO rl i)]) rfl (by decide) rfl (by decide) ?_ ?_ ?_
    · walk_at "n"
      refine iter_list (by walk_at "mem") fun I => ?_
      exact ⟨_, rfl, fun C D => ⟨I, [], rfl, rfl⟩⟩
    · rintro it C D o ⟨I, ks, rfl, rfl⟩
      refine self_list (l := rl) (i := 0) (by walk_at "mem") ?_
      exact ⟨rfl, I, ks, rfl, rfl⟩
    · rintro it C D i o hi ⟨I, ks, rfl, rfl⟩
      refine next_list (vs := heapV row) (by walk_at "mem") (by rw [heapV_length]; exact hi) (.inr ⟨_, _, _, rfl, heapV_tups row⟩) (fun hi2 => ?_) (fun v hv => ?_)
      · rw [heapV_length] at hi2
        subst hi2
        rw [List.take_length]
        exact ⟨ks, _, _, rfl, D, rfl, rfl⟩
      · obtain ⟨x, y, rfl, hlt, hwl, hT, hF⟩ := row_elt (b := b) hl1 hr2 hv
        show i < row.length ∧ _
        refine ⟨hlt, Wg.abs fun D1 don1 => ?_⟩
        clear hv hi hlt
        walk_at "n"
        refine don1 _ _ (Wg.abs fun D2 don2 => ?_)
        clear don1
        walk_at "n"
        refine w2_mul ?_ (by decide)
        walk_at "n"
        by_cases hc : 2 * x + y ≤ b
        · refine don2 _ _ (if_T (decide_eq_true hc) (Wg.abs fun D3 don3 => ?_))
          clear don2
          walk_at "n"
          refine w2_mul ?_ (by decide)
          walk_at "n"
          exact don3 _ _ (ex_at (by walk_at "at") (hT hc) hwl ⟨I, _, rfl, rfl⟩)
        · exact don2 _ _ (if_F (decide_eq_false hc) ⟨I, setK "y" (.int y) (setK "x" (.int x) ks), rfl, by rw [hF hc]; rfl⟩)
  walk_at "n"
  refine w2_ne_list (xs := intsV whole) (ys := intsV (wholeOf b row)) ?_ (by walk_at "mem") (by walk_at "mem") (by rw [← c2]; exact eqV_intsT whole 4)
  walk_at "n"
  clear c2
  refine Wg.drop (own₀ := [(L, .frame KS), (L + 1 + 1, .cell (.ref rl)), (37, T37), (30, T30), (rl, .list (heapV row)), (pl, .list (heapV pts)), (bk, .dict (mapE book))]) ?_ (by walk_at "sl")
  clear D
  -- the parts that count_calls counts
  refine Wg.use [true, false, false, false, false, false, true] (k' := 600) (own₀ := [(L, .frame KS), (bk, .dict (mapE book))]) (P₀ := fun v o => ∃ D, v = .ref D ∧ o = [(L, .frame KS), (bk, .dict (mapE book)), (D, .list (intsV (book.map fun p => cntE p.2)))]) ?_ (post_ex fun D => ?_)
  · clear fin hdc c5
    refine Wg.dropPost ?_
    refine Wg.epoch (a := bk) (kvs := mapE book) (pre := [(L, .frame KS)]) (post := []) rfl fun ep => ?_
    dsimp only [List.cons_append, List.nil_append]
    refine we_ListComp0 book.length (fun it C D i o => ∃ I r ks, it = .ref I ∧ o = ((C, .frame ks) :: (D, .list (intsV ((book.take i).map fun p => cntE p.2))) :: [(L, .frame KS), (bk, dictEp w (mapE book) ep), (r, vviewO bk)]) ++ [(I, viterO bk (mapE book).length ep i)]) rfl (by decide) rfl (by decide) ?_ ?_ ?_
    · refine we_valuesE ?_
      walk_at "n"
      refine ⟨bk, _, ep, rfl, by walk_at "mem", fun r => ?_⟩
      walk_at "n"
      refine iter_values (d := bk) (kvs := mapE book) (ep := ep) (by walk_at "mem") (by walk_at "mem") fun I => ?_
      exact ⟨_, rfl, fun C D => ⟨I, r, [], rfl, rfl⟩⟩
    · rintro it C D o ⟨I, r, ks, rfl, rfl⟩
      refine self_values (d := bk) (n := (mapE book).length) (ep := ep) (i := 0) (by walk_at "mem") ?_
      exact ⟨rfl, I, r, ks, rfl, rfl⟩
    · rintro it C D i o hi ⟨I, r, ks, rfl, rfl⟩
      refine next_values (kvs := mapE book) (by walk_at "mem") (by rw [mapE_len]; exact hi) (fun hi2 => ?_) (fun p hp => ?_)
      · rw [mapE_len] at hi2
        subst hi2
        rw [List.take_length]
        refine ⟨ks, _, _, rfl, ?_⟩
        dsimp only [List.cons_append, List.nil_append]
        exact ⟨_, by walk_at "at", [(L, _), (bk, _), (D, _)], by walk_at "sl", D, rfl, rfl⟩
      · obtain ⟨e, he, rfl, hlt⟩ := mapE_get hp
        have hsn := snoc_ints (fun p => cntE p.2) he
        show i < book.length ∧ _
        refine ⟨hlt, Wg.abs fun D1 don1 => ?_⟩
        clear hp hi hlt he
        walk_at "n"
        refine don1 _ _ (Wg.abs fun D2 don2 => ?_)
        clear don1
        walk_at "n"
        refine w2_tup (v := .dct e.2.d) ?_ rfl rfl
        walk_at "n"
        refine Wg.use [false, false, false, false, false, false] (wc_count_calls (w := w) (kvs := e.2.d)) (post_eq ?_)
        walk_at "n"
        exact don2 _ _ (ex_at (by walk_at "at") hsn (snoc_len _ hl2) ⟨I, r, _, rfl, rfl⟩)
  walk_at "n"
  -- the parts that the entries tell
  refine Wg.use [true, false, false, false, false, false, true, false] (k' := 600) (own₀ := [(L, .frame KS), (bk, .dict (mapE book))]) (P₀ := fun v o => ∃ D, v = .ref D ∧ o = [(L, .frame KS), (bk, .dict (mapE book)), (D, .list (intsV (book.map fun p => p.2.p)))]) ?_ (post_ex fun D2 => ?_)
  · clear fin hdc c5 D
    refine Wg.dropPost ?_
    refine Wg.epoch (a := bk) (kvs := mapE book) (pre := [(L, .frame KS)]) (post := []) rfl fun ep => ?_
    dsimp only [List.cons_append, List.nil_append]
    refine we_ListComp0 book.length (fun it C D i o => ∃ I r ks, it = .ref I ∧ o = ((C, .frame ks) :: (D, .list (intsV ((book.take i).map fun p => p.2.p))) :: [(L, .frame KS), (bk, dictEp w (mapE book) ep), (r, vviewO bk)]) ++ [(I, viterO bk (mapE book).length ep i)]) rfl (by decide) rfl (by decide) ?_ ?_ ?_
    · refine we_valuesE ?_
      walk_at "n"
      refine ⟨bk, _, ep, rfl, by walk_at "mem", fun r => ?_⟩
      walk_at "n"
      refine iter_values (d := bk) (kvs := mapE book) (ep := ep) (by walk_at "mem") (by walk_at "mem") fun I => ?_
      exact ⟨_, rfl, fun C D => ⟨I, r, [], rfl, rfl⟩⟩
    · rintro it C D o ⟨I, r, ks, rfl, rfl⟩
      refine self_values (d := bk) (n := (mapE book).length) (ep := ep) (i := 0) (by walk_at "mem") ?_
      exact ⟨rfl, I, r, ks, rfl, rfl⟩
    · rintro it C D i o hi ⟨I, r, ks, rfl, rfl⟩
      refine next_values (kvs := mapE book) (by walk_at "mem") (by rw [mapE_len]; exact hi) (fun hi2 => ?_) (fun p hp => ?_)
      · rw [mapE_len] at hi2
        subst hi2
        rw [List.take_length]
        refine ⟨ks, _, _, rfl, ?_⟩
        dsimp only [List.cons_append, List.nil_append]
        exact ⟨_, by walk_at "at", [(L, _), (bk, _), (D, _)], by walk_at "sl", D, rfl, rfl⟩
      · obtain ⟨e, he, rfl, hlt⟩ := mapE_get hp
        have hsn := snoc_ints (fun p => p.2.p) he
        show i < book.length ∧ _
        refine ⟨hlt, Wg.abs fun D1 don1 => ?_⟩
        clear hp hi hlt he
        walk_at "n"
        refine don1 _ _ (Wg.abs fun D2 don2 => ?_)
        clear don1
        walk_at "n"
        refine w2_tup (v := .int e.2.p) ?_ rfl rfl
        exact don2 _ _ (ex_at (by walk_at "at") hsn (snoc_len _ hl2) ⟨I, r, _, rfl, rfl⟩)
  walk_at "n"
  refine w2_ne_list (xs := intsV (book.map fun p => cntE p.2)) (ys := intsV (book.map fun p => p.2.p)) ?_ (by walk_at "mem") (by walk_at "mem") (by rw [c3]; exact eqV_intsT _ 4)
  walk_at "n"
  clear c3
  refine Wg.drop (own₀ := [(L, .frame KS), (L + 1 + 1, .cell (.ref rl)), (37, T37), (30, T30), (rl, .list (heapV row)), (pl, .list (heapV pts)), (bk, .dict (mapE book))]) ?_ (by walk_at "sl")
  clear D D2
  -- the sums of neighbours
  refine Wg.use [true, true, false, false, true, true, false] (k' := 600) (own₀ := [(L, .frame KS), (L + 1 + 1, .cell (.ref rl)), (rl, .list (heapV row)), (pl, .list (heapV pts))]) (P₀ := fun v o => ∃ D, v = .ref D ∧ o = [(L, .frame KS), (L + 1 + 1, .cell (.ref rl)), (rl, .list (heapV row)), (pl, .list (heapV pts)), (D, .dict (mapE dc))]) ?_ (post_ex fun D => ?_)
  · clear fin c5
    refine we_DictComp0 pts.length (fun it C D i o => ∃ I ks acc, it = .ref I ∧ (pts.drop i).foldlM (dcStep row) acc = some dc ∧ o = ((C, .frame ks) :: (D, .dict (mapE acc)) :: [(L, .frame KS), (L + 1 + 1, .cell (.ref rl)), (rl, .list (heapV row)), (pl, .list (heapV pts))]) ++ [(I, liO pl i)]) rfl (by decide) rfl (by decide) ?_ ?_ ?_
    · walk_at "n"
      refine iter_list (by walk_at "mem") fun I => ?_
      exact ⟨_, rfl, fun C D => ⟨I, [], [], rfl, hdc, rfl⟩⟩
    · rintro it C D o ⟨I, ks, acc, rfl, hacc, rfl⟩
      refine self_list (l := pl) (i := 0) (by walk_at "mem") ?_
      exact ⟨rfl, I, ks, acc, rfl, hacc, rfl⟩
    · rintro it C D i o hi ⟨I, ks, acc, rfl, hacc, rfl⟩
      refine next_list (vs := heapV pts) (by walk_at "mem") (by rw [heapV_length]; exact hi) (.inr ⟨_, _, _, rfl, heapV_tups pts⟩) (fun hi2 => ?_) (fun v hv => ?_)
      · rw [heapV_length] at hi2
        subst hi2
        rw [List.drop_length] at hacc
        cases hacc
        exact ⟨ks, _, _, rfl, D, rfl, rfl⟩
      · obtain ⟨x, y, p, s, t, rfl, hlt, x1, y1, ha, hsr, hacc'⟩ := dc_cases hv hacc
        show i < pts.length ∧ _
        refine ⟨hlt, Wg.abs fun D1 don1 => ?_⟩
        have hls := wc_law_sum (w := w) (x := x) (y := y) (p := p) (s := s) (t := t) (rl := rl) (row := row) x1 y1 hl1 hsr
        clear hv hacc hi hlt hdc x1 y1 hsr
        walk_at "n"
        refine don1 _ _ (Wg.abs fun D2 don2 => ?_)
        clear don1
        walk_at "n"
        refine w2_mul ?_ (by decide)
        walk_at "n"
        refine don2 _ _ (Wg.abs fun D3 don3 => ?_)
        clear don2
        walk_at "n"
        refine Wg.use [false, false, false, false, true] hls (post_eq ?_)
        walk_at "n"
        exact don3 _ _ (ex_dictE (e := ⟨x, y, p, s, t⟩) (by walk_at "at") ha ⟨I, _, _, rfl, hacc', rfl⟩)
  walk_at "n"
  refine w2_eq_dict (xs := mapE book) (ys := mapE dc) ?_ (by walk_at "mem") (by walk_at "mem") (by rw [mapE_len, mapE_len]; exact c4) c5
  walk_at "n"
  exact fin _ _ ⟨rfl, by walk_at "mem", by walk_at "mem"⟩

end

-- B24
set_option maxRecDepth 100000
set_option maxHeartbeats 1000000
section
theorem nd5b (L : Nat) (h : 37 < L ∧ 30 < L) : [L, L + 1, L + 2, 37, 30].Nodup := by
  refine List.nodup_append.mpr ⟨(List.nodup_append.mp (show ([L, L + 1, L + 2] ++ [L + 3, L + 4]).Nodup from nd5 L)).1, show [37, 30].Nodup from by decide, fun a ha b hb => lt5 L a b (List.mem_append_left [L + 3, L + 4] ha) ?_⟩
  rcases List.mem_cons.mp hb with rfl | hb
  · exact h.1
  · rw [List.mem_singleton.mp hb]; exact h.2
theorem lt3 (L : Nat) (h : 37 < L ∧ 30 < L) : 3 < L ∧ 3 < L + 1 ∧ 3 < L + 2 :=
  have h3 := Nat.lt_trans (by decide : 3 < 37) h.1
  ⟨h3, Nat.lt_succ_of_lt h3, Nat.lt_succ_of_lt (Nat.lt_succ_of_lt h3)⟩
theorem law_join {w : World} {oc : Value} {od : Option Addr} {osl : Array (Option Value)} {fd : FuncData} {body : List Stmt} (hl : (Mine.K w.params).lookup 180 = some ⟨oc, od, .func fd, osl⟩) (hb : fd.body = .stmts body)
    (law : ∀ (n q : Int) (b : Nat), 2 ≤ n → n ≤ 1000 → 1 ≤ q → q < n → 6 ≤ b → b ≤ 8 → LawOk n q b)
    {g0 h₁ : Heap} {L fa sA : Addr} {cd : Value} {m : Str → Option Value} {vs : List Value} {ns : List Int} {oR oB : Obj} {p loose mean mg mb} {s : Shared} {tk : Nat} {Q : Flow → Shared → Prop} {E : Value → Shared → Prop}
    (X' : (Mine.K w.params).In g0) (T' : Top p loose mean mg mb g0) (F' : Fr g0 L h₁ m) (hm : m "script" = some (.ref sA)) (lifted : g0.IsList sA (List.toArray vs)) (hI : IntsAre vs ns) (hlen : ¬ ((63 : Nat) : Int) < (ns.length : Int))
    (c1 : CodeHd g0 41 37) (c2 : CodeHd g0 34 30) (N' : News g0 L h₁ [(L + 1 + 1, oR), (L + 1, oB), (30, tabObj #[]), (37, tabObj #[])]) (l0' : 30 < L ∧ 37 < L) (hR : oR.data = .cell none) (hB : oB.data = .cell none)
    (K : ∀ h' tk', g0.StaysIn h' → GrownAt 37 h' → GrownAt 30 h' → Q (.ret (.bool true)) { s with heap := h', toks := tk' }) :
    wpAny (model PG w) (callerA.deeper (envOfC fd.name fd.scope L fa cd)) (execs body (envOfC fd.name fd.scope L fa cd)) Q E { s with heap := h₁, toks := tk } := by
  have l0 : 37 < L ∧ 30 < L := ⟨l0'.2, l0'.1⟩
  obtain ⟨oS, hoS, hcS, nS, hdS⟩ := lifted
  have hscr : scrOk oS := ⟨_, nS, ns, hcS, hdS, hI, by have := hI.length; rw [List.size_toArray]; omega⟩
  have hgL : ∀ j : Nat, g0.get? (L + j) = none := fun j => by
    cases e : g0.get? (L + j) with
    | none => rfl
    | some o => exact absurd (Heap.lt_size e) (Nat.not_lt.mpr (Nat.le_trans F'.above (Nat.le_add_right _ _)))
  have S : Sim w ([(L, .frame [("script", .ref sA)]), (L + 1, .nocell), (L + 2, ncW sA oS), (37, T37), (30, T30)] ++ []) h₁ g0 := by
    refine ⟨⟨X', p, loose, mean, mg, mb, T', c1, c2, trivial⟩, F'.keep, fun q hq => ?_, ?_⟩
    · simp only [List.append_nil, List.mem_cons, List.not_mem_nil, or_false] at hq
      rcases hq with rfl | rfl | rfl | rfl | rfl
      · obtain ⟨oL, es, ep, hoL, hdL, hkL, hmL⟩ := F'.ns
        refine ⟨(lt3 L l0).1, hgL 0, oL, hoL, es, ep, hdL, hkL, fun x v e => ?_⟩
        have hx : x = "script" ∧ v = .ref sA := by
          simp only [List.lookup] at e
          split at e
          · rename_i q; exact ⟨eq_of_beq q, by cases e; rfl⟩
          · cases e
        obtain ⟨rfl, rfl⟩ := hx
        exact ⟨.ref sA, (hmL _).trans hm, VR.raw_iff.mpr rfl⟩
      · exact ⟨(lt3 L l0).2.1, hgL 1, oB, (N' (L + 1, oB) (by simp)).1, none, hB⟩
      · exact ⟨(lt3 L l0).2.2, hgL 2, oR, (N' (L + 1 + 1, oR) (by simp)).1, hR, hoS⟩
      · exact ⟨by decide, (N' (37, tabObj #[]) (by simp)).2.2, _, (N' (37, tabObj #[]) (by simp)).1, .inl rfl⟩
      · exact ⟨by decide, (N' (30, tabObj #[]) (by simp)).2.2, _, (N' (30, tabObj #[]) (by simp)).1, .inl rfl⟩
    · exact nd5b L l0
  refine law_walk hl hb law hscr (callerA.deeper (envOfC fd.name fd.scope L fa cd)) g0 { s with heap := h₁, toks := tk } [] Q E () ⟨rfl, (show callerA.depth + 1 + 600 < recursionLimit from by decide), (show callerA.units + 3 + 8 * 600 + 16 < cLine from by decide)⟩ S trivial fun fl h' tk' g' fv o' hP S' l' r' => ?_
  obtain ⟨rfl, t37, t30⟩ := hP
  obtain ⟨c, rfl, rc⟩ := r'
  rw [VR.raw_iff] at rc; subst rc
  have gr : ∀ (a : Addr) (ln col : Nat) (q : Str), (a, tabO ln col q) ∈ o' → GrownAt a h' := fun a ln col q hmem => by
    obtain ⟨_, _, o, ho, e⟩ := S'.ent _ (mem_app hmem)
    rcases e with e | ⟨c', e, _⟩
    · exact ⟨_, e ▸ ho⟩
    · exact ⟨_, e ▸ ho⟩
  exact K h' tk' (StaysIn.trans l' S'.sub) (gr 37 _ _ _ t37) (gr 30 _ _ _ t30)

end

-- P1
set_option maxRecDepth 100000
set_option maxHeartbeats 0
set_option genSizeOf false
set_option genSizeOfSpec false
set_option genInjectivity false
section
/-- a class of q/n: a/b <= q/n < c/d, b*c - a*d = 1 -/
structure Cl where
  a : Int
  b : Int
  c : Int
  d : Int
noncomputable def Cl.e1 (k : Cl) (x y : Int) : Int := k.b * y + k.a * x
noncomputable def Cl.e2 (k : Cl) (x y : Int) : Int := k.d * y + k.c * x
/-- the low of a class -/
noncomputable def Cl.low (k : Cl) (x : Int) : Int := -((k.a * x).fdiv k.b)
noncomputable def Cl.lowOk (k : Cl) (x : Int) : Bool := decide (0 ≤ k.e1 x (k.low x)) && decide (0 ≤ k.e2 x (k.low x)) && decide (k.e1 x (k.low x - 1) < 0) && decide (k.e2 x (k.low x - 1) ≤ 0)
noncomputable def Cl.lowP (k : Cl) (x : Int) : Option Int := if 1 ≤ x ∧ x ≤ 9 then some (k.low x) else none
noncomputable def allC (k : Cl) (b : Nat) : List (List Int) := (List.range b).flatMap fun i : Nat => ((List.range (i + 2)).filter (fun x : Nat => decide (k.low x ≤ 1 + (i : Int) - 2 * (x : Int)))).map (fun x : Nat => [(x : Int), 1 + (i : Int) - 2 * (x : Int)])
/-- the row of a class, up to the bound: the second part says how it ends -/
noncomputable def rowN (k : Cl) (ux uy vx vy j : Int) : Bool := decide (0 ≤ k.e1 ((j + 1) * vx - ux) ((j + 1) * vy - uy)) && decide (0 ≤ k.e2 ((j + 1) * vx - ux) ((j + 1) * vy - uy))
-- the least k with l(k V - U) >= 0, as far as the bound asks
noncomputable def rowK (k : Cl) (b ux uy vx vy : Int) : Option Nat := (List.range 20).find? fun j : Nat => decide (b < ((j : Int) + 1) * (2 * vx + vy) - (2 * ux + uy)) || rowN k ux uy vx vy j
noncomputable def rowC (k : Cl) (b : Int) : Nat → List (List Int) → Int → Int → Int → Int → Option (List (List Int))
  | 0, _, _, _, _, _ => none
  | f + 1, pre, ux, uy, vx, vy =>
    if 2 * vx + vy ≤ b then
      (rowK k b ux uy vx vy).bind fun j =>
        if pre.length ≤ 100 ∧ 0 < 2 * vx + vy ∧ k.e1 ((j : Int) * vx - ux) ((j : Int) * vy - uy) < 0 ∧ k.e2 ((j : Int) * vx - ux) ((j : Int) * vy - uy) ≤ 0 then
          if b < ((j : Int) + 1) * (2 * vx + vy) - (2 * ux + uy) then some (pre ++ [[ux, uy], [vx, vy]])
          else if rowN k ux uy vx vy j = true then rowC k b f (pre ++ [[ux, uy]]) vx vy (((j : Int) + 1) * vx - ux) (((j : Int) + 1) * vy - uy)
          else none
        else none
    else some (pre ++ [[ux, uy], [vx, vy]])
theorem rowC_eq {k : Cl} {b ux uy vx vy : Int} {f : Nat} {pre : List (List Int)} : rowC k b (f + 1) pre ux uy vx vy =
    (if 2 * vx + vy ≤ b then
      (rowK k b ux uy vx vy).bind fun j =>
        if pre.length ≤ 100 ∧ 0 < 2 * vx + vy ∧ k.e1 ((j : Int) * vx - ux) ((j : Int) * vy - uy) < 0 ∧ k.e2 ((j : Int) * vx - ux) ((j : Int) * vy - uy) ≤ 0 then
          if b < ((j : Int) + 1) * (2 * vx + vy) - (2 * ux + uy) then some (pre ++ [[ux, uy], [vx, vy]])
          else if rowN k ux uy vx vy j = true then rowC k b f (pre ++ [[ux, uy]]) vx vy (((j : Int) + 1) * vx - ux) (((j : Int) + 1) * vy - uy)
          else none
        else none
    else some (pre ++ [[ux, uy], [vx, vy]])) := rfl
noncomputable def entOk (b : Int) (whole : List Int) (book : List (Int × Ent)) (row pts : List (List Int)) : Bool :=
  (whole == wholeOf b row) && (book.map (fun p => cntE p.2) == book.map (fun p => p.2.p)) && decide (row.length ≤ 900) && decide (book.length ≤ 1000) && decide (pts.length ≤ 1000) &&
  match dcOf row pts with
  | some dc => (book.length == dc.length) && ((mapE book).all fun p => match lookD (mapE dc) p.1 with | some v => eqV 6 p.2 v | none => false)
  | none => false
noncomputable def clsOk (k : Cl) (b : Nat) : Bool :=
  ((List.range 10).all fun x : Nat => k.lowOk x) &&
  match ptsG k.lowP b 300 [[1, 0, 1, 1]] [], rowC k b 30 [] 0 1 1 0 with
  | some pts, some row => (pts == allC k b) && match bookOf pts with
    | some (whole, book) => entOk b whole book row pts
    | none => false
  | _, _ => false
noncomputable def farey : List Cl := [⟨0,1,1,9⟩,⟨1,9,1,8⟩,⟨1,8,1,7⟩,⟨1,7,1,6⟩,⟨1,6,1,5⟩,⟨1,5,2,9⟩,⟨2,9,1,4⟩,⟨1,4,2,7⟩,⟨2,7,1,3⟩,⟨1,3,3,8⟩,⟨3,8,2,5⟩,⟨2,5,3,7⟩,⟨3,7,4,9⟩,⟨4,9,1,2⟩,⟨1,2,5,9⟩,⟨5,9,4,7⟩,⟨4,7,3,5⟩,⟨3,5,5,8⟩,⟨5,8,2,3⟩,⟨2,3,5,7⟩,⟨5,7,3,4⟩,⟨3,4,7,9⟩,⟨7,9,4,5⟩,⟨4,5,5,6⟩,⟨5,6,6,7⟩,⟨6,7,7,8⟩,⟨7,8,8,9⟩,⟨8,9,1,1⟩]
theorem cls0_6 : clsOk ⟨0,1,1,9⟩ 6 = true := by decide +kernel
theorem cls0_7 : clsOk ⟨0,1,1,9⟩ 7 = true := by decide +kernel
theorem cls0_8 : clsOk ⟨0,1,1,9⟩ 8 = true := by decide +kernel
theorem cls1_6 : clsOk ⟨1,9,1,8⟩ 6 = true := by decide +kernel
theorem cls1_7 : clsOk ⟨1,9,1,8⟩ 7 = true := by decide +kernel
theorem cls1_8 : clsOk ⟨1,9,1,8⟩ 8 = true := by decide +kernel
theorem cls2_6 : clsOk ⟨1,8,1,7⟩ 6 = true := by decide +kernel
theorem cls2_7 : clsOk ⟨1,8,1,7⟩ 7 = true := by decide +kernel
theorem cls2_8 : clsOk ⟨1,8,1,7⟩ 8 = true := by decide +kernel
theorem cls3_6 : clsOk ⟨1,7,1,6⟩ 6 = true := by decide +kernel
theorem cls3_7 : clsOk ⟨1,7,1,6⟩ 7 = true := by decide +kernel
theorem cls3_8 : clsOk ⟨1,7,1,6⟩ 8 = true := by decide +kernel
theorem cls4_6 : clsOk ⟨1,6,1,5⟩ 6 = true := by decide +kernel
theorem cls4_7 : clsOk ⟨1,6,1,5⟩ 7 = true := by decide +kernel
theorem cls4_8 : clsOk ⟨1,6,1,5⟩ 8 = true := by decide +kernel
theorem cls5_6 : clsOk ⟨1,5,2,9⟩ 6 = true := by decide +kernel
theorem cls5_7 : clsOk ⟨1,5,2,9⟩ 7 = true := by decide +kernel
theorem cls5_8 : clsOk ⟨1,5,2,9⟩ 8 = true := by decide +kernel
theorem cls6_6 : clsOk ⟨2,9,1,4⟩ 6 = true := by decide +kernel
theorem cls6_7 : clsOk ⟨2,9,1,4⟩ 7 = true := by decide +kernel
theorem cls6_8 : clsOk ⟨2,9,1,4⟩ 8 = true := by decide +kernel
theorem cls7_6 : clsOk ⟨1,4,2,7⟩ 6 = true := by decide +kernel
theorem cls7_7 : clsOk ⟨1,4,2,7⟩ 7 = true := by decide +kernel
theorem cls7_8 : clsOk ⟨1,4,2,7⟩ 8 = true := by decide +kernel
theorem cls8_6 : clsOk ⟨2,7,1,3⟩ 6 = true := by decide +kernel
theorem cls8_7 : clsOk ⟨2,7,1,3⟩ 7 = true := by decide +kernel
theorem cls8_8 : clsOk ⟨2,7,1,3⟩ 8 = true := by decide +kernel
theorem cls9_6 : clsOk ⟨1,3,3,8⟩ 6 = true := by decide +kernel
theorem cls9_7 : clsOk ⟨1,3,3,8⟩ 7 = true := by decide +kernel
theorem cls9_8 : clsOk ⟨1,3,3,8⟩ 8 = true := by decide +kernel
theorem cls10_6 : clsOk ⟨3,8,2,5⟩ 6 = true := by decide +kernel
theorem cls10_7 : clsOk ⟨3,8,2,5⟩ 7 = true := by decide +kernel
theorem cls10_8 : clsOk ⟨3,8,2,5⟩ 8 = true := by decide +kernel
theorem cls11_6 : clsOk ⟨2,5,3,7⟩ 6 = true := by decide +kernel
theorem cls11_7 : clsOk ⟨2,5,3,7⟩ 7 = true := by decide +kernel
theorem cls11_8 : clsOk ⟨2,5,3,7⟩ 8 = true := by decide +kernel
theorem cls12_6 : clsOk ⟨3,7,4,9⟩ 6 = true := by decide +kernel
theorem cls12_7 : clsOk ⟨3,7,4,9⟩ 7 = true := by decide +kernel
theorem cls12_8 : clsOk ⟨3,7,4,9⟩ 8 = true := by decide +kernel
theorem cls13_6 : clsOk ⟨4,9,1,2⟩ 6 = true := by decide +kernel
theorem cls13_7 : clsOk ⟨4,9,1,2⟩ 7 = true := by decide +kernel
theorem cls13_8 : clsOk ⟨4,9,1,2⟩ 8 = true := by decide +kernel
theorem cls14_6 : clsOk ⟨1,2,5,9⟩ 6 = true := by decide +kernel
theorem cls14_7 : clsOk ⟨1,2,5,9⟩ 7 = true := by decide +kernel
theorem cls14_8 : clsOk ⟨1,2,5,9⟩ 8 = true := by decide +kernel
theorem cls15_6 : clsOk ⟨5,9,4,7⟩ 6 = true := by decide +kernel
theorem cls15_7 : clsOk ⟨5,9,4,7⟩ 7 = true := by decide +kernel
theorem cls15_8 : clsOk ⟨5,9,4,7⟩ 8 = true := by decide +kernel
theorem cls16_6 : clsOk ⟨4,7,3,5⟩ 6 = true := by decide +kernel
theorem cls16_7 : clsOk ⟨4,7,3,5⟩ 7 = true := by decide +kernel
theorem cls16_8 : clsOk ⟨4,7,3,5⟩ 8 = true := by decide +kernel
theorem cls17_6 : clsOk ⟨3,5,5,8⟩ 6 = true := by decide +kernel
theorem cls17_7 : clsOk ⟨3,5,5,8⟩ 7 = true := by decide +kernel
theorem cls17_8 : clsOk ⟨3,5,5,8⟩ 8 = true := by decide +kernel
theorem cls18_6 : clsOk ⟨5,8,2,3⟩ 6 = true := by decide +kernel
theorem cls18_7 : clsOk ⟨5,8,2,3⟩ 7 = true := by decide +kernel
theorem cls18_8 : clsOk ⟨5,8,2,3⟩ 8 = true := by decide +kernel
theorem cls19_6 : clsOk ⟨2,3,5,7⟩ 6 = true := by decide +kernel
theorem cls19_7 : clsOk ⟨2,3,5,7⟩ 7 = true := by decide +kernel
theorem cls19_8 : clsOk ⟨2,3,5,7⟩ 8 = true := by decide +kernel
theorem cls20_6 : clsOk ⟨5,7,3,4⟩ 6 = true := by decide +kernel
theorem cls20_7 : clsOk ⟨5,7,3,4⟩ 7 = true := by decide +kernel
theorem cls20_8 : clsOk ⟨5,7,3,4⟩ 8 = true := by decide +kernel
theorem cls21_6 : clsOk ⟨3,4,7,9⟩ 6 = true := by decide +kernel
theorem cls21_7 : clsOk ⟨3,4,7,9⟩ 7 = true := by decide +kernel
theorem cls21_8 : clsOk ⟨3,4,7,9⟩ 8 = true := by decide +kernel
theorem cls22_6 : clsOk ⟨7,9,4,5⟩ 6 = true := by decide +kernel
theorem cls22_7 : clsOk ⟨7,9,4,5⟩ 7 = true := by decide +kernel
theorem cls22_8 : clsOk ⟨7,9,4,5⟩ 8 = true := by decide +kernel
theorem cls23_6 : clsOk ⟨4,5,5,6⟩ 6 = true := by decide +kernel
theorem cls23_7 : clsOk ⟨4,5,5,6⟩ 7 = true := by decide +kernel
theorem cls23_8 : clsOk ⟨4,5,5,6⟩ 8 = true := by decide +kernel
theorem cls24_6 : clsOk ⟨5,6,6,7⟩ 6 = true := by decide +kernel
theorem cls24_7 : clsOk ⟨5,6,6,7⟩ 7 = true := by decide +kernel
theorem cls24_8 : clsOk ⟨5,6,6,7⟩ 8 = true := by decide +kernel
theorem cls25_6 : clsOk ⟨6,7,7,8⟩ 6 = true := by decide +kernel
theorem cls25_7 : clsOk ⟨6,7,7,8⟩ 7 = true := by decide +kernel
theorem cls25_8 : clsOk ⟨6,7,7,8⟩ 8 = true := by decide +kernel
theorem cls26_6 : clsOk ⟨7,8,8,9⟩ 6 = true := by decide +kernel
theorem cls26_7 : clsOk ⟨7,8,8,9⟩ 7 = true := by decide +kernel
theorem cls26_8 : clsOk ⟨7,8,8,9⟩ 8 = true := by decide +kernel
theorem cls27_6 : clsOk ⟨8,9,1,1⟩ 6 = true := by decide +kernel
theorem cls27_7 : clsOk ⟨8,9,1,1⟩ 7 = true := by decide +kernel
theorem cls27_8 : clsOk ⟨8,9,1,1⟩ 8 = true := by decide +kernel
theorem clsAll : (farey.all fun k => clsOk k 6 && clsOk k 7 && clsOk k 8) = true := by
  simp only [farey, List.all_cons, List.all_nil, cls0_6, cls0_7, cls0_8, cls1_6, cls1_7, cls1_8, cls2_6, cls2_7, cls2_8, cls3_6, cls3_7, cls3_8, cls4_6, cls4_7, cls4_8, cls5_6, cls5_7, cls5_8, cls6_6, cls6_7, cls6_8, cls7_6, cls7_7, cls7_8, cls8_6, cls8_7, cls8_8, cls9_6, cls9_7, cls9_8, cls10_6, cls10_7, cls10_8, cls11_6, cls11_7, cls11_8, cls12_6, cls12_7, cls12_8, cls13_6, cls13_7, cls13_8, cls14_6, cls14_7, cls14_8, cls15_6, cls15_7, cls15_8, cls16_6, cls16_7, cls16_8, cls17_6, cls17_7, cls17_8, cls18_6, cls18_7, cls18_8, cls19_6, cls19_7, cls19_8, cls20_6, cls20_7, cls20_8, cls21_6, cls21_7, cls21_8, cls22_6, cls22_7, cls22_8, cls23_6, cls23_7, cls23_8, cls24_6, cls24_7, cls24_8, cls25_6, cls25_7, cls25_8, cls26_6, cls26_7, cls26_8, cls27_6, cls27_7, cls27_8, Bool.and_self, Bool.and_true]
end

-- P2
set_option maxRecDepth 100000
set_option maxHeartbeats 1000000
set_option genSizeOf false
set_option genSizeOfSpec false
set_option genInjectivity false
section
/-- n and q lie in the class -/
structure In (k : Cl) (n q s t : Int) : Prop where
  hn : n = s * k.b + t * k.d
  hq : q = s * k.a + t * k.c
  hs : 0 < s
  ht : 0 ≤ t
theorem ell {k : Cl} {n q s t : Int} (h : In k n q s t) (x y : Int) : n * y + q * x = s * k.e1 x y + t * k.e2 x y := by
  rw [h.hn, h.hq, Cl.e1, Cl.e2]
  simp only [Int.add_mul, Int.mul_add, Int.mul_assoc]
  omega
theorem ell_nonneg {k : Cl} {n q s t : Int} (h : In k n q s t) {x y : Int} (h1 : 0 ≤ k.e1 x y) (h2 : 0 ≤ k.e2 x y) : 0 ≤ n * y + q * x := by
  rw [ell h]
  have := Int.mul_nonneg (Int.le_of_lt h.hs) h1
  have := Int.mul_nonneg h.ht h2
  omega
theorem ell_neg {k : Cl} {n q s t : Int} (h : In k n q s t) {x y : Int} (h1 : k.e1 x y < 0) (h2 : k.e2 x y ≤ 0) : n * y + q * x < 0 := by
  rw [ell h]
  have := Int.mul_neg_of_pos_of_neg h.hs h1
  have := Int.mul_nonpos_of_nonneg_of_nonpos h.ht h2
  omega
theorem low_eq {k : Cl} {n q s t : Int} (h : In k n q s t) (hn : 0 < n) {x : Int} (hx : k.lowOk x = true) : lowOf n q x = k.low x := by
  simp only [Cl.lowOk, Bool.and_eq_true, decide_eq_true_eq] at hx
  obtain ⟨⟨⟨h1, h2⟩, h3⟩, h4⟩ := hx
  have p := ell_nonneg h h1 h2
  have m := ell_neg h h3 h4
  rw [Int.mul_sub, Int.mul_one] at m
  have e := (fdiv_uniq (a := q * x) (b := n) (q := -k.low x) (r := n * k.low x + q * x) hn (by rw [Int.neg_mul, Int.mul_comm (k.low x) n]; omega) p (by omega)).1
  rw [lowOf, ← e]; omega
theorem ptsG_run {low : Int → Int} {lp : Int → Option Int} (hl : ∀ x v, lp x = some v → low x = v) {bound : Int} : ∀ (f : Nat) (h told r : List (List Int)), ptsG lp bound f h told = some r → ptsLoop low bound f h told = some r
  | 0, _, _, _, e => by cases e
  | f + 1, h, told, r, e => by
    obtain ⟨_, g, x, y, fi, tl, e1, rfl⟩ := pts_inv e
    cases e1
    replace e := ptsG_eq.symm.trans e
    refine ptsG_eq.trans ?_
    by_cases h1 : g ≤ bound
    · rw [if_pos h1] at e ⊢
      by_cases h2 : 1000 < ([g, x, y, fi] :: tl).length ∨ 1000 < told.length ∨ x < 0 ∨ 100 < x
      · rw [if_pos h2] at e; cases e
      · rw [if_neg h2] at e ⊢
        by_cases h3 : fi = 1
        · replace e := (if_pos h3).symm.trans e
          refine (if_pos h3).trans ?_
          obtain ⟨v, hv, e⟩ := Option.bind_eq_some_iff.mp e
          cases hl _ _ hv
          exact ptsG_run hl f _ _ _ e
        · replace e := (if_neg h3).symm.trans e
          refine (if_neg h3).trans ?_
          exact ptsG_run hl f _ _ _ e
    · rw [if_neg h1] at e ⊢
      exact e
theorem lowP_ok {k : Cl} {n q s t : Int} (h : In k n q s t) (hn : 0 < n) (hx : ((List.range 10).all fun x : Nat => k.lowOk x) = true) : ∀ x v, k.lowP x = some v → lowOf n q x = v := by
  intro x v e
  unfold Cl.lowP at e
  split at e
  · rename_i hr
    cases e
    have := List.all_eq_true.mp hx x.toNat (List.mem_range.mpr (by omega))
    rw [Int.toNat_of_nonneg (by omega)] at this
    exact low_eq h hn this
  · cases e
theorem sign_iff {k : Cl} {n q s t : Int} (h : In k n q s t) (hn : 0 < n) {x : Int} (hx : k.lowOk x = true) (y : Int) : 0 ≤ n * y + q * x ↔ k.low x ≤ y := by
  simp only [Cl.lowOk, Bool.and_eq_true, decide_eq_true_eq] at hx
  obtain ⟨⟨⟨h1, h2⟩, h3⟩, h4⟩ := hx
  have p := ell_nonneg h h1 h2
  have m := ell_neg h h3 h4
  constructor
  · intro hy
    by_cases c : k.low x ≤ y
    · exact c
    · have := Int.mul_le_mul_of_nonneg_left (show y ≤ k.low x - 1 from by omega) (Int.le_of_lt hn)
      omega
  · intro c
    have := Int.mul_le_mul_of_nonneg_left c (Int.le_of_lt hn)
    omega
theorem allC_eq {k : Cl} {n q s t : Int} (h : In k n q s t) (hn : 0 < n) (hx : ((List.range 10).all fun x : Nat => k.lowOk x) = true) {b : Nat} (hb : b ≤ 8) : allG n q b = allC k b := by
  unfold allG allC allX
  have e : ∀ i ∈ List.range b, (List.range (i + 2)).filter (fun x : Nat => decide (0 ≤ n * (1 + (i : Int) - 2 * (x : Int)) + q * (x : Int))) = (List.range (i + 2)).filter (fun x : Nat => decide (k.low x ≤ 1 + (i : Int) - 2 * (x : Int))) := by
    intro i hi
    have hi' := List.mem_range.mp hi
    refine List.filter_congr fun x hxm => ?_
    have hxm' := List.mem_range.mp hxm
    have := List.all_eq_true.mp hx x (List.mem_range.mpr (by omega))
    exact decide_eq_decide.mpr (sign_iff h hn this _)
  rw [List.flatMap_def, List.flatMap_def]
  congr 1
  refine List.map_congr_left fun i hi => ?_
  rw [e i hi]
end

-- P3
set_option maxRecDepth 100000
set_option maxHeartbeats 1000000
section
theorem ell_lin (n q c vx vy ux uy : Int) : n * (c * vy - uy) + q * (c * vx - ux) = c * (n * vy + q * vx) - (n * uy + q * ux) := by
  simp only [Int.mul_sub, Int.mul_add]
  rw [Int.mul_left_comm n c vy, Int.mul_left_comm q c vx]
  omega
noncomputable def prs (l : List (List Int)) : Prop := ∀ v ∈ l, ∃ x y, v = [x, y]
theorem prs_app {l m : List (List Int)} (h : prs l) (h' : prs m) : prs (l ++ m) := fun v hv => (List.mem_append.mp hv).elim (h v) (h' v)
theorem prs_one (x y : Int) : prs [[x, y]] := fun _ hv => ⟨x, y, List.mem_singleton.mp hv⟩
theorem prs_two (x y z t : Int) : prs [[x, y], [z, t]] := prs_app (prs_one x y) (prs_one z t)
theorem ceil_ge {N M j : Int} (hM : 0 < M) (h : j * M - N < 0) : j + 1 ≤ -(-N).fdiv M := by
  rw [Int.fdiv_eq_ediv_of_nonneg _ (Int.le_of_lt hM)]
  have : (-N) / M < -j := Int.ediv_lt_of_lt_mul hM (by rw [Int.neg_mul]; omega)
  omega
theorem ceil_eq {N M j : Int} (hM : 0 < M) (h : j * M - N < 0) (h' : 0 ≤ (j + 1) * M - N) : -(-N).fdiv M = j + 1 ∧ (-N).fmod M = (j + 1) * M - N := by
  rw [Int.add_mul, Int.one_mul] at h' ⊢
  obtain ⟨e1, e2⟩ := fdiv_uniq (a := -N) (b := M) (q := -(j + 1)) (r := j * M + M - N) hM (by rw [Int.neg_mul, Int.add_mul, Int.one_mul]; omega) h' (by omega)
  exact ⟨by rw [← e1, Int.neg_neg], e2.symm⟩
theorem rowC_cases {k : Cl} {b ux uy vx vy : Int} {f : Nat} {pre rc : List (List Int)} (e : rowC k b (f + 1) pre ux uy vx vy = some rc) :
    (¬ 2 * vx + vy ≤ b ∧ rc = pre ++ [[ux, uy], [vx, vy]]) ∨ (2 * vx + vy ≤ b ∧ ∃ j : Nat, pre.length ≤ 100 ∧ 0 < 2 * vx + vy ∧ k.e1 ((j : Int) * vx - ux) ((j : Int) * vy - uy) < 0 ∧ k.e2 ((j : Int) * vx - ux) ((j : Int) * vy - uy) ≤ 0 ∧
      ((b < ((j : Int) + 1) * (2 * vx + vy) - (2 * ux + uy) ∧ rc = pre ++ [[ux, uy], [vx, vy]]) ∨ (0 ≤ k.e1 (((j : Int) + 1) * vx - ux) (((j : Int) + 1) * vy - uy) ∧ 0 ≤ k.e2 (((j : Int) + 1) * vx - ux) (((j : Int) + 1) * vy - uy) ∧
        rowC k b f (pre ++ [[ux, uy]]) vx vy (((j : Int) + 1) * vx - ux) (((j : Int) + 1) * vy - uy) = some rc))) := by
  rw [rowC_eq] at e
  by_cases hg : 2 * vx + vy ≤ b
  · rw [if_pos hg] at e
    obtain ⟨j, _, e⟩ := Option.bind_eq_some_iff.mp e
    by_cases hc : pre.length ≤ 100 ∧ 0 < 2 * vx + vy ∧ k.e1 ((j : Int) * vx - ux) ((j : Int) * vy - uy) < 0 ∧ k.e2 ((j : Int) * vx - ux) ((j : Int) * vy - uy) ≤ 0
    · rw [if_pos hc] at e
      refine .inr ⟨hg, j, hc.1, hc.2.1, hc.2.2.1, hc.2.2.2, ?_⟩
      by_cases hb : b < ((j : Int) + 1) * (2 * vx + vy) - (2 * ux + uy)
      · rw [if_pos hb] at e; cases e; exact .inl ⟨hb, rfl⟩
      · rw [if_neg hb] at e
        by_cases hp : rowN k ux uy vx vy j = true
        · rw [if_pos hp] at e
          have hp := Bool.and_eq_true_iff.mp hp
          exact .inr ⟨of_decide_eq_true hp.1, of_decide_eq_true hp.2, e⟩
        · rw [if_neg hp] at e; cases e
    · rw [if_neg hc] at e; cases e
  · rw [if_neg hg] at e; cases e; exact .inl ⟨hg, rfl⟩
theorem row_stop {b N M ux uy vx vy : Int} {pre : List (List Int)} (h : M = 0 ∨ ¬ 2 * vx + vy ≤ b) : rowLoop b 1 N M pre ux uy vx vy = some (pre ++ [[ux, uy], [vx, vy]]) := by
  rw [rowLoop_eq]
  by_cases hq : M = 0
  · rw [if_pos hq]
  · rw [if_neg hq, if_neg (h.resolve_left hq)]
theorem row_step {b N M ux uy vx vy : Int} {pre : List (List Int)} {g : Nat} (hq : M ≠ 0) (hg : 2 * vx + vy ≤ b) (hl : pre.length ≤ 100) : rowLoop b (g + 1) N M pre ux uy vx vy = rowLoop b g M ((-N).fmod M) (pre ++ [[ux, uy]]) vx vy (-(-N).fdiv M * vx - ux) (-(-N).fdiv M * vy - uy) := by
  rw [rowLoop_eq, if_neg hq, if_pos hg, if_neg (Nat.not_lt.mpr hl)]
theorem grade_lin {c j b gv gu : Int} (hv : 0 < gv) (hc : j + 1 ≤ c) (hb : b < (j + 1) * gv - gu) : b < c * gv - gu :=
  Int.lt_of_lt_of_le hb (Int.sub_le_sub_right (Int.mul_le_mul_of_nonneg_right hc (Int.le_of_lt hv)) gu)
theorem row_run {k : Cl} {n q s t : Int} (h : In k n q s t) {b : Int} : ∀ (f : Nat) (pre : List (List Int)) (ux uy vx vy : Int) (rc : List (List Int)),
    0 ≤ n * vy + q * vx → prs pre → rowC k b f pre ux uy vx vy = some rc →
    ∃ f2 tail, rowLoop b f2 (n * uy + q * ux) (n * vy + q * vx) pre ux uy vx vy = some (rc ++ tail) ∧ prs (rc ++ tail) ∧ (tail = [] ∨ ∃ x y, tail = [[x, y]] ∧ b < 2 * x + y)
  | 0, _, _, _, _, _, _, _, _, e => by cases e
  | f + 1, pre, ux, uy, vx, vy, rc, h0, hpre, e => by
    have hsh := prs_app hpre (prs_two ux uy vx vy)
    rcases rowC_cases e with ⟨hg, rfl⟩ | ⟨hg, j, hlen, hgv, hn1, hn2, hcs⟩
    · exact ⟨1, [], by rw [List.append_nil]; exact row_stop (.inr hg), by rw [List.append_nil]; exact hsh, .inl rfl⟩
    · have hneg := ell_neg h hn1 hn2
      rw [ell_lin] at hneg
      by_cases hq0 : n * vy + q * vx = 0
      · rcases hcs with ⟨hb, rfl⟩ | ⟨p1, p2, -⟩
        · exact ⟨1, [], by rw [List.append_nil]; exact row_stop (.inl hq0), by rw [List.append_nil]; exact hsh, .inl rfl⟩
        · have hp' := ell_nonneg h p1 p2
          rw [ell_lin, hq0, Int.mul_zero] at hp'
          rw [hq0, Int.mul_zero] at hneg
          exact absurd hp' (Int.not_le.mpr hneg)
      · have hqp : 0 < n * vy + q * vx := Int.lt_iff_le_and_ne.mpr ⟨h0, Ne.symm hq0⟩
        rcases hcs with ⟨hb, rfl⟩ | ⟨p1, p2, e'⟩
        · have hk := ceil_ge hqp hneg
          have hst := fun g => row_step (N := n * uy + q * ux) (ux := ux) (uy := uy) (pre := pre) (g := g) hq0 hg hlen
          generalize -(-(n * uy + q * ux)).fdiv (n * vy + q * vx) = c at hk hst
          have hw : b < 2 * (c * vx - ux) + (c * vy - uy) := by
            have := grade_lin hgv hk hb
            rw [Int.mul_add, Int.mul_left_comm] at this
            omega
          refine ⟨2, [[c * vx - ux, c * vy - uy]], ?_, prs_app hsh (prs_one _ _), .inr ⟨_, _, rfl, hw⟩⟩
          rw [hst 1, row_stop (.inr (Int.not_le.mpr hw))]
          simp
        · have hp' := ell_nonneg h p1 p2
          have hp2 := hp'
          rw [ell_lin] at hp2
          obtain ⟨hk, hm⟩ := ceil_eq hqp hneg hp2
          obtain ⟨f2, tail, h1, h2, h3⟩ := row_run h f _ _ _ _ _ rc hp' (prs_app hpre (prs_one ux uy)) e'
          rw [ell_lin, ← hm, ← hk] at h1
          exact ⟨f2 + 1, tail, (row_step hq0 hg hlen).trans h1, h2, h3⟩
end

-- P4
set_option maxRecDepth 100000
set_option maxHeartbeats 1000000
section
theorem sumR_app {x y : Int} {r} (m : List (List Int)) : ∀ (l : List (List Int)), sumR x y l = some r → sumR x y (l ++ m) = some r := by
  intro l
  induction l with
  | nil => intro h; cases h
  | cons a l ih =>
    intro h
    obtain ⟨lx, ly, rx, ry, r', e⟩ := sumR_inv h
    cases e
    rw [sumR_eq] at h
    refine (sumR_eq (r := r' ++ m)).trans ?_
    by_cases hs : lx.natAbs ≤ 100000 ∧ ly.natAbs ≤ 100000 ∧ rx.natAbs ≤ 100000 ∧ ry.natAbs ≤ 100000
    · rw [if_pos hs] at h ⊢
      by_cases hc : 0 ≤ y * rx - x * ry ∧ 0 ≤ x * ly - y * lx
      · rw [if_pos hc] at h ⊢; exact h
      · rw [if_neg hc] at h ⊢; exact ih h
    · rw [if_neg hs] at h; cases h
theorem dcStep_app {row : List (List Int)} (m : List (List Int)) {acc acc' : List (Int × Ent)} {pt : List Int} (e : dcStep row acc pt = some acc') : dcStep (row ++ m) acc pt = some acc' := by
  unfold dcStep at e ⊢
  split at e
  · split at e
    · rename_i hs
      obtain ⟨r, h1, h2⟩ := Option.map_eq_some_iff.mp e
      rw [if_pos hs, sumR_app m _ h1]
      exact congrArg some h2
    · cases e
  · cases e
theorem dcOf_app {row : List (List Int)} (m : List (List Int)) : ∀ (pts : List (List Int)) (acc dc : List (Int × Ent)), pts.foldlM (dcStep row) acc = some dc → pts.foldlM (dcStep (row ++ m)) acc = some dc
  | [], _, _, e => e
  | p :: r, acc, dc, e => by
    rw [List.foldlM_cons] at e ⊢
    obtain ⟨a, h1, h2⟩ := Option.bind_eq_some_iff.mp e
    rw [dcStep_app m h1]
    exact dcOf_app m r a dc h2
theorem cls_law {k : Cl} {n q s t : Int} (h : In k n q s t) (hn : 0 < n) (hq : 0 ≤ q) {b : Nat} (hb : b ≤ 8) (hc : clsOk k b = true) : LawOk n q b := by
  simp only [clsOk, Bool.and_eq_true] at hc
  obtain ⟨hx, hc⟩ := hc
  split at hc
  · rename_i pts rc hp hr
    simp only [Bool.and_eq_true] at hc
    obtain ⟨hpe, hc⟩ := hc
    split at hc
    · rename_i whole book hbk
      unfold entOk at hc
      simp only [Bool.and_eq_true, decide_eq_true_eq] at hc
      obtain ⟨⟨⟨⟨⟨hw, hcnt⟩, hl1⟩, hl2⟩, hl3⟩, hdc⟩ := hc
      split at hdc
      · rename_i dc hd
        simp only [Bool.and_eq_true] at hdc
        obtain ⟨f2, tail, h1, h2, h3⟩ := row_run h 30 [] 0 1 1 0 rc (by omega) (fun _ hv => nomatch hv) hr
        rw [show n * 1 + q * 0 = n from by omega, show n * 0 + q * 1 = q from by omega] at h1
        refine ⟨pts, whole, book, rc ++ tail, dc, 300, f2, ptsG_run (lowP_ok h hn hx) _ _ _ _ hp, hbk, h1, ?_, hl2, hl3, h2, ?_, ?_, eq_of_beq hcnt, dcOf_app tail pts [] dc hd, eq_of_beq hdc.1, hdc.2⟩
        · rw [List.length_append]
          rcases h3 with rfl | ⟨x, y, rfl, _⟩
          · simp; omega
          · simp; omega
        · rw [allC_eq h hn hx hb]; exact eq_of_beq hpe
        · rw [eq_of_beq hw]
          rcases h3 with rfl | ⟨x, y, rfl, hxy⟩
          · rw [List.append_nil]
          · unfold wholeOf
            rw [List.filterMap_append]
            have : ¬ 2 * x + y ≤ (b : Int) := by omega
            simp [this]
      · cases hdc
    · cases hc
  · cases hc
theorem cover1 {n q : Int} (k : Cl) (hk : k.b * k.c - k.a * k.d = 1) (h1 : k.a * n ≤ k.b * q) (h2 : k.d * q < k.c * n) : ∃ s t, In k n q s t := by
  refine ⟨n * k.c - q * k.d, q * k.b - n * k.a, ?_, ?_, ?_, ?_⟩
  · have : n * (k.b * k.c - k.a * k.d) = n := by rw [hk, Int.mul_one]
    rw [Int.mul_sub] at this
    simp only [Int.sub_mul, Int.mul_assoc]
    rw [Int.mul_comm k.c k.b, Int.mul_comm k.d k.b]
    omega
  · have : q * (k.b * k.c - k.a * k.d) = q := by rw [hk, Int.mul_one]
    rw [Int.mul_sub] at this
    simp only [Int.sub_mul, Int.mul_assoc]
    rw [Int.mul_comm k.c k.a, Int.mul_comm k.d k.a]
    omega
  · rw [Int.mul_comm n, Int.mul_comm q]; omega
  · rw [Int.mul_comm n, Int.mul_comm q]; omega
noncomputable def chainB : List Cl → Bool
  | k :: k' :: r => (k.c == k'.a) && (k.d == k'.b) && decide (k.b * k.c - k.a * k.d = 1) && chainB (k' :: r)
  | [k] => decide (k.b * k.c - k.a * k.d = 1)
  | [] => true
/-- one after the other: the first class whose right end is past q/n -/
theorem cover {n q : Int} {k1 : Cl} (h1 : k1.d * q < k1.c * n) : ∀ (l : List Cl) (k : Cl), chainB (k :: l) = true → k.a * n ≤ k.b * q → (k :: l).getLast? = some k1 → ∃ k0 ∈ k :: l, ∃ s t, In k0 n q s t
  | [], k, hc, h0, e => by
    cases e
    exact ⟨k, by simp, cover1 k (of_decide_eq_true hc) h0 h1⟩
  | k' :: r, k, hc, h0, e => by
    simp only [chainB, Bool.and_eq_true, decide_eq_true_eq] at hc
    obtain ⟨⟨⟨j1, j2⟩, j3⟩, j4⟩ := hc
    by_cases c : k.d * q < k.c * n
    · exact ⟨k, by simp, cover1 k j3 h0 c⟩
    · have j1' := eq_of_beq j1
      have j2' := eq_of_beq j2
      obtain ⟨kk, hm, hh⟩ := cover h1 r k' j4 (by rw [← j1', ← j2']; omega) (by simpa using e)
      exact ⟨kk, List.mem_cons_of_mem _ hm, hh⟩
theorem lawAll (n q : Int) (b : Nat) (h1 : 2 ≤ n) (_h2 : n ≤ 1000) (h3 : 1 ≤ q) (h4 : q < n) (h5 : 6 ≤ b) (h6 : b ≤ 8) : LawOk n q b := by
  obtain ⟨k, hm, s, t, hi⟩ := cover (n := n) (q := q) (k1 := ⟨8, 9, 1, 1⟩) (by show 1 * q < 1 * n; omega) farey.tail ⟨0, 1, 1, 9⟩ (by decide +kernel) (by show 0 * n ≤ 1 * q; omega) (by rfl)
  have hk := List.all_eq_true.mp clsAll k hm
  simp only [Bool.and_eq_true] at hk
  obtain ⟨⟨k6, k7⟩, k8⟩ := hk
  have hb : b = 6 ∨ b = 7 ∨ b = 8 := by omega
  rcases hb with rfl | rfl | rfl
  · exact cls_law hi (by omega) (by omega) (by decide) k6
  · exact cls_law hi (by omega) (by omega) (by decide) k7
  · exact cls_law hi (by omega) (by omega) (by decide) k8
end

-- T4
set_option maxRecDepth 100000
set_option maxHeartbeats 0
section
open PySem PySem.W PySem.Calls PyProof.Rows
theorem goodW_bool' {c : ClaimW} {cl : Str → Option Addr} {mean : ExcName → Option Value} {args : List WData} {s₁ s' : Shared} {b : Bool} (hk : s₁.heap.StaysIn s'.heap) (hg : s'.gens = #[]) (hn : ∀ cls, c.raises args cls = false) (hp : c.post args (.bool b) args = true) (hos : s'.os = s₁.os) : GoodW c cl mean args s₁ (.ok (.ret (.bool b))) s' :=
  ⟨.inl ⟨_, .bool b, [], rfl, hn, .bool b, hp, fun _ => ⟨List.nodup_nil, fun _ h => nomatch h⟩⟩, hk, hos, hg⟩
end
end Mine
open PySem PySem.W PySem.Calls PyProof.Rows Mine
theorem PySem.Challenge.cw_pg0236_01_holds : PySem.Challenge.rw_pg0236_01.Holds := by
  show Mine.rl.Holds
  w_on
  o_law
  o_head (kHook Mine.K (nat_lit 2 :: nat_lit 3 :: nat_lit 15 :: nat_lit 20 :: nat_lit 21 :: nat_lit 27 :: nat_lit 28 :: nat_lit 29 :: nat_lit 31 :: nat_lit 32 :: nat_lit 34 :: nat_lit 35 :: nat_lit 36 :: nat_lit 38 :: nat_lit 39 :: nat_lit 41 :: nat_lit 42 :: nat_lit 43 :: nat_lit 48 :: nat_lit 49 :: nat_lit 55 :: nat_lit 56 :: nat_lit 62 :: nat_lit 63 :: nat_lit 69 :: nat_lit 70 :: nat_lit 76 :: nat_lit 77 :: nat_lit 83 :: nat_lit 84 :: nat_lit 90 :: nat_lit 91 :: nat_lit 99 :: nat_lit 101 :: nat_lit 102 :: nat_lit 104 :: nat_lit 105 :: nat_lit 106 :: nat_lit 108 :: nat_lit 109 :: nat_lit 111 :: nat_lit 112 :: nat_lit 113 :: nat_lit 114 :: nat_lit 115 :: nat_lit 116 :: nat_lit 117 :: nat_lit 125 :: nat_lit 126 :: nat_lit 132 :: nat_lit 133 :: nat_lit 139 :: nat_lit 140 :: nat_lit 146 :: nat_lit 147 :: nat_lit 153 :: nat_lit 154 :: nat_lit 160 :: nat_lit 161 :: nat_lit 167 :: nat_lit 168 :: nat_lit 174 :: nat_lit 175 :: nat_lit 179 :: nat_lit 180 :: []) (fun _ => by kernel_rfl))
  case hw => w_witness2
  k_go0
  refine law_join (hl := rfl) (hb := rfl) lawAll (by assumption) (by assumption) (by assumption) rfl (by assumption) (by assumption) (by assumption) (by assumption) (by assumption) (by assumption) (by assumption) ?_ ?_ ?_
  · refine' Eq.trans ?h1x ?h2x
    case h1x => assumption
    case h2x => rfl
  · refine' Eq.trans ?h1x ?h2x
    case h1x => assumption
    case h2x => rfl
  · intro h' tk' hk g1 g2
    refine ⟨goodW_bool' hk (by assumption) (fun _ => rfl) ?_ rfl, g2, g1, trivial⟩
    kernel_rfl
