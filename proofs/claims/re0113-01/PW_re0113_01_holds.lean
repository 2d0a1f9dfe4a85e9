import PyProof.Rows.All
import Wide.All
import OpenK.AllK
import Wide.FinOn
import PySem.Challenge.RW_re0113_01
open PySem PySem.W PyProof.Rows
set_option Elab.async false
namespace Mine
set_option maxRecDepth 100000
set_option maxHeartbeats 8000000
open_top hd for PySem.Challenge.rw_re0113_01
end Mine

open PySem PySem.W PyProof.Rows PySem.Calls
set_option Elab.async false
set_option maxRecDepth 100000
namespace Mine

def Kp (h h' : Heap) : Prop := ∀ b o, h.get? b = some o → h'.get? b = some o
theorem Kp.refl (h : Heap) : Kp h h := fun _ _ e => e
theorem Kp.trans {h h' h'' : Heap} (a : Kp h h') (b : Kp h' h'') : Kp h h'' := fun x o e => b x o (a x o e)
theorem Kp.push (h : Heap) (o : Obj) : Kp h (h.push o) := fun _ _ e => Heap.get?_push_of_some _ e

def upd (m : Str → Option Value) (x : Str) (v : Value) : Str → Option Value := fun y => if y = x then some v else m y

structure Up (w : World) (mg mb : Str → Option Value) (h : Heap) : Prop where
  kin : (hd.heap_39 w.params).In h
  g : h.Ns mainGlobals mg
  b : h.Ns builtinsNs mb
  lim : h.NoLimit
  bl : ∀ x : Str, x ≠ "__name__" → mb x = bootBuiltins x
theorem Up.kp {w : World} {mg mb : Str → Option Value} {h h' : Heap} (U : Up w mg mb h) (k : Kp h h') : Up w mg mb h' :=
  ⟨U.kin.keeps k, U.g.keeps k, U.b.keeps k, U.lim.keeps k, U.bl⟩

abbrev Own := List (Addr × (Obj → Prop))

structure St (b : Heap) (env : Env) (wc : List (Str × Addr)) (m cm : Str → Option Value) (own : Own) (h : Heap) : Prop where
  keep : Kp b h
  ns : h.Ns env.locals m
  cell : ∀ n c, env.cells.lookup n = some c → h.IsCell c (cm n) ∧ (wc.lookup n = some c ∨ ∃ o, b.get? c = some o)
  wx : ∀ a ∈ wc.map (·.2), ∃ o, h.get? a = some o
  ow : ∀ p ∈ own, ∃ o, h.get? p.1 = some o ∧ p.2 o
  nd : (env.locals :: (wc.map (·.2) ++ own.map (·.1))).Nodup
  nb : ∀ a ∈ env.locals :: (wc.map (·.2) ++ own.map (·.1)), b.get? a = none

variable {prog : Program} {w : World} {A : Around} {E : Value → Shared → Prop} {mg mb : Str → Option Value}
variable {b h : Heap} {env : Env} {wc : List (Str × Addr)} {m cm : Str → Option Value} {own : Own} {g : Array GenState} {d : Drawn} {t : Nat} {os : OsState}

theorem St.kp {h' : Heap} (S : St b env wc m cm own h) (k : Kp h h') : St b env wc m cm own h' :=
  ⟨S.keep.trans k, S.ns.keeps k, fun n c e => ⟨(S.cell n c e).1.keeps k, (S.cell n c e).2⟩, fun a ha => let ⟨o, ho⟩ := S.wx a ha; ⟨o, k _ _ ho⟩, fun p hp => let ⟨o, ho, hP⟩ := S.ow p hp; ⟨o, k _ _ ho, hP⟩, S.nd, S.nb⟩

theorem lookup_mem {cs : List (Str × Addr)} {n : Str} {c : Addr} (e : cs.lookup n = some c) : c ∈ cs.map (·.2) := List.mem_map.mpr ⟨(n, c), mem_of_lookup e, rfl⟩

/-- one object among the frame's own is changed: all else stands -/
theorem St.but {h' : Heap} {a : Addr} (S : St b env wc m cm own h) (ha : a ∈ env.locals :: (wc.map (·.2) ++ own.map (·.1))) (hs : Heap.ExtBut a h h') :
    Kp b h' ∧ (∀ x, x ≠ a → ∀ o, h.get? x = some o → h'.get? x = some o) :=
  ⟨fun x o e => hs x o (fun q => by rw [q, S.nb a ha] at e; cases e) (S.keep x o e), fun x hx o e => hs x o hx e⟩

theorem St.setL {h' : Heap} {m' : Str → Option Value} (S : St b env wc m cm own h) (hn : h'.Ns env.locals m') (hs : Heap.ExtBut env.locals h h') : St b env wc m' cm own h' := by
  obtain ⟨kb, kx⟩ := S.but (List.mem_cons_self ..) hs
  have nd := S.nd
  rw [List.nodup_cons] at nd
  refine ⟨kb, hn, fun n c e => ⟨?_, (S.cell n c e).2⟩, fun a ha => let ⟨o, ho⟩ := S.wx a ha; ⟨o, kx a (fun q => nd.1 (q ▸ List.mem_append_left _ ha)) o ho⟩, fun p hp => ?_, S.nd, S.nb⟩
  · obtain ⟨⟨o, ho, hd⟩, hw⟩ := S.cell n c e
    refine ⟨o, kx c (fun q => ?_) o ho, hd⟩
    rcases hw with hw | ⟨o', hw⟩
    · exact nd.1 (q ▸ List.mem_append_left _ (lookup_mem hw))
    · rw [q, S.nb _ (List.mem_cons_self ..)] at hw; cases hw
  · obtain ⟨o, ho, hP⟩ := S.ow p hp
    exact ⟨o, kx p.1 (fun q => nd.1 (q ▸ List.mem_append_right _ (List.mem_map_of_mem hp))) o ho, hP⟩

theorem nodup_snd : ∀ {cs : List (Str × Addr)} {n n' : Str} {c : Addr}, (cs.map (·.2)).Nodup → cs.lookup n = some c → cs.lookup n' = some c → n = n'
  | [], _, _, _, _, e, _ => by cases e
  | (k, a) :: cs, n, n', c, hn, e, e' => by
    rw [List.map_cons, List.nodup_cons] at hn
    rw [List.lookup_cons] at e e'
    cases h1 : n == k with
    | true =>
      rw [h1] at e
      cases e
      cases h2 : n' == k with
      | true => rw [eq_of_beq h1, eq_of_beq h2]
      | false => rw [h2] at e'; exact absurd (lookup_mem e') hn.1
    | false =>
      rw [h1] at e
      cases h2 : n' == k with
      | true => rw [h2] at e'; cases e'; exact absurd (lookup_mem e) hn.1
      | false => rw [h2] at e'; exact nodup_snd hn.2 e e'

theorem St.setC {h' : Heap} {x : Str} {c : Addr} {v : Value} (S : St b env wc m cm own h) (hc : wc.lookup x = some c) (he : env.cells.lookup x = some c) (hv : h'.IsCell c (some v)) (hs : Heap.ExtBut c h h') :
    St b env wc m (upd cm x v) own h' := by
  have hm : c ∈ env.locals :: (wc.map (·.2) ++ own.map (·.1)) := .tail _ (List.mem_append_left _ (lookup_mem hc))
  obtain ⟨kb, kx⟩ := S.but hm hs
  have nd := S.nd
  rw [List.nodup_cons, List.nodup_append] at nd
  have hL : env.locals ≠ c := fun q => nd.1 (q ▸ List.mem_append_left _ (lookup_mem hc))
  refine ⟨kb, (S.ns.at' fun o e => kx _ hL o e), fun n c' e => ⟨?_, (S.cell n c' e).2⟩, fun a ha => ?_, fun p hp => ?_, S.nd, S.nb⟩
  rotate_left
  · by_cases q : a = c
    · subst q; obtain ⟨o, ho, _⟩ := hv; exact ⟨o, ho⟩
    · obtain ⟨o, ho⟩ := S.wx a ha; exact ⟨o, kx a q o ho⟩
  rotate_left
  · obtain ⟨⟨o, ho, hd⟩, hw⟩ := S.cell n c' e
    by_cases hn : n = x
    · subst hn
      rw [he] at e; cases e
      simpa [upd] using hv
    · refine ⟨o, kx c' (fun q => ?_) o ho, by simpa [upd, hn] using hd⟩
      subst q
      rcases hw with hw | ⟨o', hw⟩
      · exact hn (nodup_snd nd.2.1 hw hc)
      · rw [S.nb _ hm] at hw; cases hw
  · obtain ⟨o, ho, hP⟩ := S.ow p hp
    exact ⟨o, kx p.1 (fun q => nd.2.2.2 c (lookup_mem hc) p.1 (List.mem_map_of_mem hp) q.symm) o ho, hP⟩

theorem St.at {i : Nat} {a : Addr} {P : Obj → Prop} (S : St b env wc m cm own h) (hi : own[i]? = some (a, P)) : ∃ o, h.get? a = some o ∧ P o := S.ow _ (List.mem_of_getElem? hi)
theorem St.mem {i : Nat} {a : Addr} {P : Obj → Prop} (hi : own[i]? = some (a, P)) : a ∈ env.locals :: (wc.map (·.2) ++ own.map (·.1)) :=
  .tail _ (List.mem_append_right _ (List.mem_map.mpr ⟨_, List.mem_of_getElem? hi, rfl⟩))

theorem St.setO {h' : Heap} {i : Nat} {a : Addr} {P P' : Obj → Prop} {o' : Obj} (S : St b env wc m cm own h) (hi : own[i]? = some (a, P)) (hs : Heap.ExtBut a h h') (ho : h'.get? a = some o') (hP : P' o') :
    St b env wc m cm (own.set i (a, P')) h' := by
  have hm : a ∈ env.locals :: (wc.map (·.2) ++ own.map (·.1)) := St.mem hi
  obtain ⟨kb, kx⟩ := S.but hm hs
  have nd := S.nd
  rw [List.nodup_cons, List.nodup_append] at nd
  have ha : a ∈ own.map (·.1) := List.mem_map.mpr ⟨_, List.mem_of_getElem? hi, rfl⟩
  obtain ⟨hl, hx⟩ := List.getElem?_eq_some_iff.mp hi
  have em : (own.set i (a, P')).map (·.1) = own.map (·.1) := by
    rw [List.map_set]
    apply List.ext_getElem?
    intro j
    rw [List.getElem?_set]
    split
    · rename_i q; subst q
      rw [if_pos (by simpa using hl), List.getElem?_map, hi]; rfl
    · rfl
  refine ⟨kb, (S.ns.at' fun o e => kx env.locals (fun q => nd.1 (by rw [q]; exact List.mem_append_right _ ha)) o e), fun n c e => ⟨?_, (S.cell n c e).2⟩, fun x hx => let ⟨o, ho⟩ := S.wx x hx; ⟨o, kx x (fun q => nd.2.2.2 _ hx _ ha q) o ho⟩, fun p hp => ?_, by rw [em]; exact S.nd, by rw [em]; exact S.nb⟩
  · obtain ⟨⟨o, ho, hd⟩, hw⟩ := S.cell n c e
    refine ⟨o, kx c (fun q => ?_) o ho, hd⟩
    subst q
    rcases hw with hw | ⟨o', hw⟩
    · exact nd.2.2.2 _ (lookup_mem hw) _ ha rfl
    · rw [S.nb _ hm] at hw; cases hw
  · obtain ⟨j, hj, he⟩ := List.mem_iff_getElem.mp hp
    rw [List.getElem_set] at he
    split at he
    · subst he; exact ⟨o', ho, hP⟩
    · rename_i hne
      have hj' : j < own.length := by simpa using hj
      have hpm : p ∈ own := he ▸ List.getElem_mem hj'
      obtain ⟨o, ho, hP⟩ := S.ow p hpm
      refine ⟨o, kx p.1 (fun q => hne ?_) o ho, hP⟩
      have h1 : (own.map (·.1))[i]? = some a := by rw [List.getElem?_map, hi]; rfl
      have h2 : (own.map (·.1))[j]? = some a := by rw [List.getElem?_map, List.getElem?_eq_getElem hj', he, ← q]; rfl
      exact ((List.getElem?_inj (by simpa using hl) nd.2.2.1).mp (h1.trans h2.symm))

theorem St.lt (S : St b env wc m cm own h) : ∀ a ∈ env.locals :: (wc.map (·.2) ++ own.map (·.1)), a < h.objs.size := by
  intro a ha
  rcases List.mem_cons.mp ha with rfl | ha
  · obtain ⟨o, _, _, ho, _⟩ := S.ns; exact Heap.lt_size ho
  · rcases List.mem_append.mp ha with ha | ha
    · obtain ⟨o, ho⟩ := S.wx a ha; exact Heap.lt_size ho
    · obtain ⟨p, hp, rfl⟩ := List.mem_map.mp ha
      obtain ⟨o, ho, _⟩ := S.ow p hp
      exact Heap.lt_size ho

theorem St.pushO {o : Obj} {P : Obj → Prop} (S : St b env wc m cm own h) (hf : o.isFreed = false) (hP : P o) : St b env wc m cm ((h.objs.size, P) :: own) (h.push o) := by
  have S' := S.kp (Kp.push h o)
  have hn : ∀ a ∈ env.locals :: (wc.map (·.2) ++ own.map (·.1)), a ≠ h.objs.size := fun a ha => Nat.ne_of_lt (S.lt a ha)
  refine ⟨S'.keep, S'.ns, S'.cell, S'.wx, fun p hp => ?_, ?_, fun a ha => ?_⟩
  · rcases List.mem_cons.mp hp with rfl | hp
    · exact ⟨o, Heap.get?_push_size _ hf, hP⟩
    · exact S'.ow p hp
  · have nd := S.nd
    rw [List.nodup_cons, List.nodup_append] at nd ⊢
    refine ⟨fun q => ?_, nd.2.1, ?_, fun x hx y hy => ?_⟩
    · rcases List.mem_append.mp q with q | q
      · exact nd.1 (List.mem_append_left _ q)
      · rcases List.mem_cons.mp q with q | q
        · exact hn _ (List.mem_cons_self ..) q
        · exact nd.1 (List.mem_append_right _ q)
    · rw [List.map_cons, List.nodup_cons]
      exact ⟨fun q => hn _ (.tail _ (List.mem_append_right _ q)) rfl, nd.2.2.1⟩
    · rcases List.mem_cons.mp hy with rfl | hy
      · exact hn _ (.tail _ (List.mem_append_left _ hx))
      · exact nd.2.2.2 x hx y hy
  · have old : ∀ a ∈ env.locals :: (wc.map (·.2) ++ own.map (·.1)), b.get? a = none := S.nb
    rcases List.mem_cons.mp ha with rfl | ha
    · exact old _ (List.mem_cons_self ..)
    · rcases List.mem_append.mp ha with ha | ha
      · exact old _ (.tail _ (List.mem_append_left _ ha))
      · rcases List.mem_cons.mp ha with rfl | ha
        · cases q : b.get? h.objs.size with
          | none => rfl
          | some o' => exact absurd (Heap.lt_size (S.keep _ _ q)) (Nat.lt_irrefl _)
        · exact old _ (.tail _ (List.mem_append_right _ ha))

theorem St.sub {own' : Own} (S : St b env wc m cm own h) (hs : own'.Sublist own) : St b env wc m cm own' h := by
  have hm : (own'.map (·.1)).Sublist (own.map (·.1)) := hs.map _
  refine ⟨S.keep, S.ns, S.cell, S.wx, fun p hp => S.ow p (hs.subset hp), S.nd.sublist ?_, fun a ha => S.nb a ?_⟩
  · exact (List.Sublist.append_left hm _).cons_cons _
  · exact ((List.Sublist.append_left hm _).cons_cons _).subset ha

/-- a larger base: all that is not the frame's own -/
theorem St.grow {h' : Heap} (S : St b env wc m cm own h) (k : Kp h h') : ∃ b', Kp b b' ∧ St b' env wc m cm own h' ∧ (∀ a o, a ∉ env.locals :: (wc.map (·.2) ++ own.map (·.1)) → h'.get? a = some o → b'.get? a = some o) := by
  have S' := S.kp k
  refine ⟨hideAll h' (env.locals :: (wc.map (·.2) ++ own.map (·.1))), fun x o e => ?_, ⟨fun x o e => of_hideAll _ e, S'.ns, fun n c e => ⟨(S'.cell n c e).1, ?_⟩, S'.wx, S'.ow, S'.nd, fun a ha => hideAll_none _ ha⟩, fun a o ha e => hideAll_get _ e ha⟩
  · exact hideAll_get _ (S'.keep x o e) fun q => by rw [S.nb x q] at e; cases e
  · rcases (S'.cell n c e).2 with q | ⟨o, q⟩
    · exact .inl q
    · exact .inr ⟨o, hideAll_get _ (S'.keep c o q) fun z => by rw [S.nb c z] at q; cases q⟩

theorem St.out (S : St b env wc m cm own h) {a : Addr} (ha : h.get? a = none) : a ∉ env.locals :: (wc.map (·.2) ++ own.map (·.1)) := fun q => by
  rcases List.mem_cons.mp q with rfl | q
  · obtain ⟨o, _, _, ho, _⟩ := S.ns; rw [ha] at ho; cases ho
  · rcases List.mem_append.mp q with q | q
    · obtain ⟨o, ho⟩ := S.wx a q; rw [ha] at ho; cases ho
    · obtain ⟨p, hp, rfl⟩ := List.mem_map.mp q
      obtain ⟨o, ho, _⟩ := S.ow p hp
      rw [ha] at ho; cases ho

theorem size_none (h : Heap) : h.get? h.objs.size = none := by
  cases q : h.get? h.objs.size with
  | none => rfl
  | some o => exact absurd (Heap.lt_size q) (Nat.lt_irrefl _)

/-- an object that is laid and never changed goes into the base -/
theorem St.pushB {o : Obj} (S : St b env wc m cm own h) (hf : o.isFreed = false) : ∃ b', Kp b b' ∧ St b' env wc m cm own (h.push o) ∧ b'.get? h.objs.size = some o := by
  obtain ⟨b', k, S', hb⟩ := S.grow (Kp.push h o)
  exact ⟨b', k, S', hb _ _ (S.out (size_none h)) (Heap.get?_push_size _ hf)⟩

/-- the first of the frame's own objects is changed no more -/
theorem St.freeze {a : Addr} {P : Obj → Prop} (S : St b env wc m cm ((a, P) :: own) h) : ∃ b', Kp b b' ∧ St b' env wc m cm own h ∧ ∃ o, b'.get? a = some o ∧ P o := by
  obtain ⟨o, ho, hP⟩ := S.at (i := 0) rfl
  have S1 := S.sub (List.sublist_cons_self _ _)
  obtain ⟨b', k, S', hb⟩ := S1.grow (Kp.refl h)
  refine ⟨b', k, S', o, hb a o (fun q => ?_) ho, hP⟩
  have nd := S.nd
  rw [List.nodup_cons, List.nodup_append, List.map_cons, List.nodup_cons] at nd
  rcases List.mem_cons.mp q with rfl | q
  · exact nd.1 (List.mem_append_right _ (List.mem_cons_self ..))
  · rcases List.mem_append.mp q with q | q
    · exact nd.2.2.2 a q a (List.mem_cons_self ..) rfl
    · exact nd.2.2.1.1 q
end Mine

open PySem PySem.W PyProof.Rows PySem.Calls
set_option Elab.async false
set_option maxRecDepth 100000
namespace Mine
noncomputable abbrev KK (w : World) : Frag := hd.heap_39 w.params
variable {prog : Program} {w : World} {A : Around} {E : Value → Shared → Prop} {mg mb : Str → Option Value}
variable {b h : Heap} {env : Env} {wc : List (Str × Addr)} {m cm : Str → Option Value} {own : Own} {g : Array GenState} {d : Drawn} {t : Nat} {os : OsState}
variable {R : Result → Shared → Prop}

theorem ei0 (i : Nat) : (0 : Int) + (i : Int) * 1 = i := by omega
theorem ei1 (i : Nat) : (1 : Int) + (i : Int) * 1 = 1 + i := by omega
theorem dep {d k k' R : Nat} (h : d + k < R) (hk : k' ≤ k) : d + k' < R := Nat.lt_of_le_of_lt (Nat.add_le_add_left hk d) h
theorem lt4 {i : Nat} (h : i < 4) : i < 1000 := by omega
theorem r_nm {x : Str} {pos : Pos} {v : Value} {Q : Value → Shared → Prop} (S : St b env wc m cm own h) (hx : env.kindOf x = some .local) (hv : m x = some v) (k : Q v ⟨h, g, d, t, os⟩)
    (hk : env.scope.kind = .function := by rfl) (hd : (x == ("__debug__" : Str)) = false := by rfl) : wpAny (model prog w) A (eval (.Name x pos) env) Q E ⟨h, g, d, t, os⟩ :=
  wpAny_Name (wpAny_loadName_local hk hx S.ns hv k) hd
theorem r_ld {x : Str} {v : Value} {Q : Value → Shared → Prop} (S : St b env wc m cm own h) (hx : env.kindOf x = some .local) (hv : m x = some v) (k : Q v ⟨h, g, d, t, os⟩)
    (hk : env.scope.kind = .function := by rfl) : wpAny (model prog w) A (loadName env x) Q E ⟨h, g, d, t, os⟩ :=
  wpAny_loadName_local hk hx S.ns hv k
theorem r_nmc {x : Str} {pos : Pos} {c : Addr} {v : Value} {Q : Value → Shared → Prop} (S : St b env wc m cm own h) (hx : env.kindOf x = some .cell) (hc : env.cells.lookup x = some c) (hv : cm x = some v) (k : Q v ⟨h, g, d, t, os⟩)
    (hk : env.scope.kind = .function := by rfl) (hd : (x == ("__debug__" : Str)) = false := by rfl) : wpAny (model prog w) A (eval (.Name x pos) env) Q E ⟨h, g, d, t, os⟩ :=
  wpAny_Name (wpAny_loadName_cell hk hx hc (hv ▸ (S.cell x c hc).1) k) hd
theorem r_nmf {x : Str} {pos : Pos} {c : Addr} {v : Value} {Q : Value → Shared → Prop} (S : St b env wc m cm own h) (hx : env.kindOf x = some .free) (hc : env.cells.lookup x = some c) (hv : cm x = some v) (k : Q v ⟨h, g, d, t, os⟩)
    (hk : env.scope.kind = .function := by rfl) (hd : (x == ("__debug__" : Str)) = false := by rfl) (hn : (x == ("__classdict__" : Str)) = false := by rfl) : wpAny (model prog w) A (eval (.Name x pos) env) Q E ⟨h, g, d, t, os⟩ :=
  wpAny_Name (wpAny_loadName_free hk hx hc (hv ▸ (S.cell x c hc).1) k hn) hd
theorem r_nmg {x : Str} {pos : Pos} {v : Value} {Q : Value → Shared → Prop} (U : Up w mg mb b) (S : St b env wc m cm own h) (hx : env.kindOf x = some .globalImplicit) (hv : nsIn (KK w) mainGlobals x = some (some v)) (k : Q v ⟨h, g, d, t, os⟩)
    (hk : env.scope.kind = .function := by rfl) (hg : env.globals = mainGlobals := by rfl) (hd : (x == ("__debug__" : Str)) = false := by rfl) : wpAny (model prog w) A (eval (.Name x pos) env) Q E ⟨h, g, d, t, os⟩ :=
  Name_function_global hk hx (loadGlobal_global (hg ▸ U.g.keeps S.keep) (mg_of U.kin U.g hv) k) hd
theorem r_nmb {x : Str} {pos : Pos} {v : Value} {Q : Value → Shared → Prop} (U : Up w mg mb b) (S : St b env wc m cm own h) (hx : env.kindOf x = some .globalImplicit) (hn : nsIn (KK w) mainGlobals x = some none) (hv : bootBuiltins x = some v) (k : Q v ⟨h, g, d, t, os⟩)
    (hk : env.scope.kind = .function := by rfl) (hg : env.globals = mainGlobals := by rfl) (hb : env.builtins = builtinsNs := by rfl) (hne : x ≠ ("__name__" : Str) := by decide) (hd : (x == ("__debug__" : Str)) = false := by rfl) : wpAny (model prog w) A (eval (.Name x pos) env) Q E ⟨h, g, d, t, os⟩ :=
  Name_function_global hk hx (loadGlobal_builtin (hg ▸ U.g.keeps S.keep) (mg_none_of U.kin U.g hn) (hb ▸ U.b.keeps S.keep) ((U.bl x hne).trans hv) k) hd

theorem r_st {x : Str} {v : Value} {Q : Unit → Shared → Prop} (S : St b env wc m cm own h) (hx : env.kindOf x = some .local)
    (k : ∀ h' t', St b env wc (upd m x v) cm own h' → Q () ⟨h', g, d, t', os⟩) (hp : (env.scope.kind == .class || (env.scope.kind == .module && env.locals != env.globals)) = false := by rfl) :
    wpAny (model prog w) A (storeName env x v) Q E ⟨h, g, d, t, os⟩ :=
  wpAny_storeName_local hx S.ns (fun h' hn hs => k h' _ (S.setL hn hs.extBut)) hp
theorem r_stc {x : Str} {c : Addr} {v : Value} {Q : Unit → Shared → Prop} (S : St b env wc m cm own h) (hx : env.kindOf x = some .cell) (hc : env.cells.lookup x = some c) (hw : wc.lookup x = some c)
    (k : ∀ h', St b env wc m (upd cm x v) own h' → Q () ⟨h', g, d, t, os⟩) (hk : env.scope.kind = .function := by rfl) :
    wpAny (model prog w) A (storeName env x v) Q E ⟨h, g, d, t, os⟩ :=
  wpAny_storeName_cell hk hx hc (S.cell x c hc).1 (fun h' hv hs => k h' (S.setC hw hc hv hs.extBut))
/-- a store by the target's name -/
theorem r_as {x : Str} {pos : Pos} {v : Value} {Q : Unit → Shared → Prop} (S : St b env wc m cm own h) (hx : env.kindOf x = some .local)
    (k : ∀ h' t', St b env wc (upd m x v) cm own h' → Q () ⟨h', g, d, t', os⟩) (hp : (env.scope.kind == .class || (env.scope.kind == .module && env.locals != env.globals)) = false := by rfl) :
    wpAny (model prog w) A (assign (.Name x pos) env v) Q E ⟨h, g, d, t, os⟩ := wpAny_assign_Name (r_st S hx k hp)
theorem r_asc {x : Str} {pos : Pos} {c : Addr} {v : Value} {Q : Unit → Shared → Prop} (S : St b env wc m cm own h) (hx : env.kindOf x = some .cell) (hc : env.cells.lookup x = some c) (hw : wc.lookup x = some c)
    (k : ∀ h', St b env wc m (upd cm x v) own h' → Q () ⟨h', g, d, t, os⟩) (hk : env.scope.kind = .function := by rfl) :
    wpAny (model prog w) A (assign (.Name x pos) env v) Q E ⟨h, g, d, t, os⟩ := wpAny_assign_Name (r_stc S hx hc hw k hk)

theorem r_int {i : Int} {k : Nat} {pos : Pos} {Q : Value → Shared → Prop} (q : ∀ u t', Q (.int i u) ⟨h, g, d, t', os⟩) : wpAny (model prog w) A (eval (.Constant (.int i) k pos) env) Q E ⟨h, g, d, t, os⟩ := wpAny_Constant_int (q _ _)
theorem r_str {x : Str} {k : Nat} {pos : Pos} {Q : Value → Shared → Prop} (q : ∀ u t', Q (.str x u) ⟨h, g, d, t', os⟩) : wpAny (model prog w) A (eval (.Constant (.str x) k pos) env) Q E ⟨h, g, d, t, os⟩ := wpAny_Constant_str (q _ _)
theorem r_none {k : Nat} {pos : Pos} {Q : Value → Shared → Prop} (q : Q .none ⟨h, g, d, t, os⟩) : wpAny (model prog w) A (eval (.Constant .none k pos) env) Q E ⟨h, g, d, t, os⟩ := fun _ _ _ => q

theorem r_add {i j : Int} {u v : Tok} {Q : Value → Shared → Prop} (q : ∀ u t', Q (.int (i + j) u) ⟨h, g, d, t', os⟩) : wpAny (model prog w) A (binaryOp .Add (.int i u) (.int j v)) Q E ⟨h, g, d, t, os⟩ := add_int (q _ _)
theorem r_sub {i j : Int} {u v : Tok} {Q : Value → Shared → Prop} (q : ∀ u t', Q (.int (i - j) u) ⟨h, g, d, t', os⟩) : wpAny (model prog w) A (binaryOp .Sub (.int i u) (.int j v)) Q E ⟨h, g, d, t, os⟩ := sub_int (q _ _)
theorem r_mod {i j : Int} {u v : Tok} {Q : Value → Shared → Prop} (hj : j ≠ 0) (q : ∀ u t', Q (.int (i.fmod j) u) ⟨h, g, d, t', os⟩) : wpAny (model prog w) A (binaryOp .Mod (.int i u) (.int j v)) Q E ⟨h, g, d, t, os⟩ := mod_int hj (q _ _)

theorem St.off {h' : Heap} {a : Addr} (S : St b env wc m cm own h) (ha : a ∉ env.locals :: (wc.map (·.2) ++ own.map (·.1))) (hb : b.get? a = none) (hx : Heap.ExtBut a h h') : St b env wc m cm own h' := by
  refine ⟨fun x o e => hx x o (fun q => by rw [q, hb] at e; cases e) (S.keep x o e), S.ns.at' fun o e => hx _ o (fun q => ha (by rw [← q]; exact List.mem_cons_self ..)) e, fun n c e => ?_, fun x hm => ?_, fun p hp => ?_, S.nd, S.nb⟩
  · obtain ⟨⟨o, ho, hd⟩, hw⟩ := S.cell n c e
    refine ⟨⟨o, hx c o (fun q => ?_) ho, hd⟩, hw⟩
    subst q
    rcases hw with hw | ⟨o', hw⟩
    · exact ha (.tail _ (List.mem_append_left _ (lookup_mem hw)))
    · rw [hb] at hw; cases hw
  · obtain ⟨o, ho⟩ := S.wx x hm
    exact ⟨o, hx x o (fun q => ha (by rw [← q]; exact .tail _ (List.mem_append_left _ hm))) ho⟩
  · obtain ⟨o, ho, hP⟩ := S.ow p hp
    exact ⟨o, hx p.1 o (fun q => ha (by rw [← q]; exact .tail _ (List.mem_append_right _ (List.mem_map_of_mem hp)))) ho, hP⟩
theorem St.headOut {a : Addr} {P : Obj → Prop} (S : St b env wc m cm ((a, P) :: own) h) : a ∉ env.locals :: (wc.map (·.2) ++ own.map (·.1)) := by
  have nd := S.nd
  rw [List.nodup_cons, List.nodup_append, List.map_cons, List.nodup_cons] at nd
  intro q
  rcases List.mem_cons.mp q with rfl | q
  · exact nd.1 (List.mem_append_right _ (List.mem_cons_self ..))
  · rcases List.mem_append.mp q with q | q
    · exact nd.2.2.2 _ q _ (List.mem_cons_self ..) rfl
    · exact nd.2.2.1.1 q
theorem St.drop1 {p : Addr × (Obj → Prop)} (S : St b env wc m cm (p :: own) h) : St b env wc m cm own h := S.sub (List.sublist_cons_self _ _)

theorem dec1 {i n : Nat} (h : i < n) : n + 1 - (i + 1) < n + 1 - i := by omega
theorem ifT {P Q : Prop} (h : P) : if true = true then P else Q := h
theorem ifF {P Q : Prop} (h : Q) : if false = true then P else Q := h
theorem ifT' {P Q : Prop} (h : if true = true then P else Q) : P := h
theorem ifF' {P Q : Prop} (h : if false = true then P else Q) : Q := h
inductive LSt (b : Heap) (env : Env) (wc : List (Str × Addr)) (I : Addr) (n : Nat) (J : Nat → Heap → (Str → Option Value) → (Str → Option Value) → Own → Prop) (Ws : Nat → Heap → Prop) (g : Array GenState) (d : Drawn) (os : OsState) (k : Nat) (s' : Shared) : Prop
  | mk (i : Nat) (b₁ : Heap) (m₁ cm₁ : Str → Option Value) (own₁ : Own) (h₁ : Heap) (t₁ : Nat) (PI' : Obj → Prop) (e : s' = ⟨h₁, g, d, t₁, os⟩) (hi : i ≤ n) (hk : k = n + 1 - i) (kb : Kp b b₁) (hJ : J i b₁ m₁ cm₁ own₁) (S : St b₁ env wc m₁ cm₁ ((I, PI') :: own₁) h₁) (hs : Ws i h₁) : LSt b env wc I n J Ws g d os k s'
inductive LNx (env : Env) (wc : List (Str × Addr)) (I : Addr) (oI : Obj) (J : Nat → Heap → (Str → Option Value) → (Str → Option Value) → Own → Prop) (i : Nat) (b : Heap) (g : Array GenState) (d : Drawn) (os : OsState) (s' : Shared) : Prop
  | mk (b' : Heap) (m' cm' : Str → Option Value) (own' : Own) (h' : Heap) (t' : Nat) (e : s' = ⟨h', g, d, t', os⟩) (k : Kp b b') (S : St b' env wc m' cm' ((I, fun o => o = oI) :: own') h') (hJ : J i b' m' cm' own') : LNx env wc I oI J i b g d os s'
def LPost (env : Env) (wc : List (Str × Addr)) (I : Addr) (oI : Obj) (J : Nat → Heap → (Str → Option Value) → (Str → Option Value) → Own → Prop) (i : Nat) (b : Heap) (g : Array GenState) (d : Drawn) (os : OsState) (R : Result → Shared → Prop) (f : Flow) (s' : Shared) : Prop :=
  match f with
  | .next | .cont => LNx env wc I oI J i b g d os s'
  | .brk => R (.ok .next) s'
  | .ret v => R (.ok (.ret v)) s'

theorem loopW {target : Expr} {body : List Stmt} {I : Addr} {PI : Obj → Prop} {fp : List Addr} {n : Nat} {P : Nat → Value → Prop} {Ws : Nat → Heap → Prop} (W : Walks prog w A I fp [I] n P Ws)
    (hfp : ∀ a ∈ fp, a ≠ I → ∃ o, b.get? a = some o) (hI : ∀ i h, Ws i h → ∃ o, h.get? I = some o)
    (S : St b env wc m cm ((I, PI) :: own) h) (hst : Ws 0 h) (J : Nat → Heap → (Str → Option Value) → (Str → Option Value) → Own → Prop) (h0 : J 0 b m cm own)
    (step : ∀ i v b₁ m₁ cm₁ own₁ h₁ t₁ oI (Q' : Flow → Shared → Prop) (E' : Value → Shared → Prop), i < n → P i v → Kp b b₁ → J i b₁ m₁ cm₁ own₁ → St b₁ env wc m₁ cm₁ ((I, fun o => o = oI) :: own₁) h₁ →
      (∀ b' m' cm' own' h' t', Kp b₁ b' → St b' env wc m' cm' ((I, fun o => o = oI) :: own') h' → J (i + 1) b' m' cm' own' → Q' .next ⟨h', g, d, t', os⟩) →
      wpAny (model prog w) A (assign target env v) (fun _ s₂ => wpAny (model prog w) A (execs body env) Q' E' s₂) E' ⟨h₁, g, d, t₁, os⟩)
    (fin : ∀ b₁ m₁ cm₁ own₁ h₁ t₁, Kp b b₁ → J n b₁ m₁ cm₁ own₁ → St b₁ env wc m₁ cm₁ own₁ h₁ → R (.ok .next) ⟨h₁, g, d, t₁, os⟩)
    (ht : ∀ v, letOwnedTupleGo target (.ref I) v = pure () := by intro _; rfl) :
    codeAny (model prog w) A (.forLoop target (.ref I) body [] env) R ⟨h, g, d, t, os⟩ := by
  refine codeAny_forLoop (LSt b env wc I n J Ws g d os) ?_ (n + 1)
    ⟨0, b, m, cm, own, h, t, PI, rfl, Nat.zero_le _, rfl, Kp.refl b, h0, S, hst⟩ ht
  rintro k s' ⟨i, b₁, m₁, cm₁, own₁, h₁, t₁, PI', rfl, hi, rfl, kb, hJ, S₁, hs₁⟩
  by_cases hlt : i < n
  · refine W.item i _ _ _ hlt hs₁ fun v h₂ t₂ hP hs₂ hk => ?_
    obtain ⟨oI, hoI⟩ := hI _ _ hs₂
    have S₂ : St b₁ env wc m₁ cm₁ ((I, fun o => o = oI) :: own₁) h₂ := S₁.setO (i := 0) (P' := fun o => o = oI) rfl (fun x o hx e => hk x o (by simpa using hx) e) hoI rfl
    refine wpAny_mono (step i v b₁ m₁ cm₁ own₁ h₂ t₂ oI (LPost env wc I oI J (i + 1) b₁ g d os R) (notedBy (model prog w) A env fun e s' => R (.error e) s') hlt hP kb hJ S₂ fun b' m' cm' own' h' t' k S J => ⟨b', m', cm', own', h', t', rfl, k, S, J⟩) (fun _ s₃ q => wpAny_mono q (fun f s₄ q => ?_) fun _ _ e => e) fun _ _ e => e
    have nx : LNx env wc I oI J (i + 1) b₁ g d os s₄ → ∃ m, m < n + 1 - i ∧ LSt b env wc I n J Ws g d os m s₄ := by
      rintro ⟨b', m', cm', own', h', t', rfl, kb', S', hJ'⟩
      refine ⟨n + 1 - (i + 1), dec1 hlt, i + 1, b', m', cm', own', h', t', _, rfl, hlt, rfl, kb.trans kb', hJ', S', W.frame _ _ _ hs₂ fun a ha o e => ?_⟩
      by_cases q : a = I
      · subst q
        obtain ⟨o', ho', rfl⟩ := S'.at (i := 0) rfl
        rw [hoI] at e; cases e; exact ho'
      · obtain ⟨o', ho'⟩ := hfp a ha q
        have e1 := S₂.keep _ _ (kb _ _ ho')
        rw [e1] at e; cases e
        exact S'.keep _ _ (kb' _ _ (kb _ _ ho'))
    cases f with
    | next => exact nx q
    | cont => exact nx q
    | brk => exact q
    | ret v => exact q
  · have hin : i = n := Nat.le_antisymm hi (Nat.not_lt.mp hlt)
    subst hin
    refine W.done _ _ _ hs₁ fun h₂ t₂ hk => ?_
    exact wpAny_execs_nil (fin b₁ m₁ cm₁ own₁ h₂ t₂ kb hJ (S₁.drop1.off S₁.headOut (S₁.nb I (St.mem (i := 0) rfl)) (fun x o hx e => hk x o (by simpa using hx) e)))
end Mine

open PySem PySem.W PyProof.Rows PySem.Calls
set_option Elab.async false
set_option maxRecDepth 100000
namespace Mine
variable {prog : Program} {w : World} {A : Around} {E : Value → Shared → Prop} {mg mb : Str → Option Value}
variable {b h : Heap} {env : Env} {wc : List (Str × Addr)} {m cm : Str → Option Value} {own : Own} {g : Array GenState} {d : Drawn} {t : Nat} {os : OsState}
variable {R : Result → Shared → Prop}

theorem r_iadd {i j : Int} {u v : Tok} {Q : Value → Shared → Prop} (q : ∀ u t', Q (.int (i + j) u) ⟨h, g, d, t', os⟩) : wpAny (model prog w) A (inplaceOp .Add (.int i u) (.int j v)) Q E ⟨h, g, d, t, os⟩ := wpAny_iadd_int (q _ _)
theorem r_iterS {x : Str} {u : Tok} {Q : Value → Shared → Prop} (S : St b env wc m cm own h) (ha : x.cps.all (· < 128) = true)
    (k : ∀ I h', St b env wc m cm ((I, fun _ => True) :: own) h' → h'.IsStrIter I "str_ascii_iterator" x u 0 → Q (.ref I) ⟨h', g, d, t, os⟩) :
    wpAny (model prog w) A (pyIter (.str x u)) Q E ⟨h, g, d, t, os⟩ :=
  wpAny_pyIter_ascii ha (k _ _ (S.pushO rfl trivial) ⟨_, Heap.get?_push_size _ rfl, rfl, rfl⟩)

/-- a def of the top is called -/
theorem call_of {a : Addr} {o : Obj} {fd : FuncData} {body : List Stmt} {args : Args} {binds : List (Str × Value)} (U : Up w mg mb h) (hroom : A.depth < recursionLimit)
    (ho : (KK w).lookup a = some o) (hdata : o.data = .func fd) (hcd : codeIn (KK w) fd.code fd.qualname = true) (hbody : fd.body = .stmts body) (hbind : bindArgs fd args = pure binds)
    (hclo : fd.closure = []) (hcell : (fd.scope.names.all fun x => decide (x.2 ≠ .cell)) = true) (hloc : (binds.all fun x => decide (fd.scope.names.lookup x.1 = some .local)) = true)
    (k : ∀ h₁ t₁, St h (callEnv fd h.objs.size a) [] (fun x => binds.reverse.lookup x) (fun _ => none) [] h₁ →
      wpAny (model prog w) (A.deeper (callEnv fd h.objs.size a)) (execs body (callEnv fd h.objs.size a)) (fun f s' => R (.ok (.ret (match f with | .ret v => v | _ => .none))) s') (fun _ _ => False) ⟨h₁, g, d, t₁, os⟩)
    (hco : fd.scope.isCoroutine = false := by rfl) (hgen : fd.scope.isGenerator = false := by rfl) (hk : fd.scope.kind = .function := by rfl) :
    codeAny (model prog w) A (.call (.ref a) args) R ⟨h, g, d, t, os⟩ := by
  refine codeAny_call_def (fd := fd) hroom (U.kin _ _ ho) hdata U.lim (codeRec_of U.kin hcd) hbody (BindsTo.of_eq hbind) (fun x hx => of_decide_eq_true (List.all_eq_true.mp hcell x hx)) (locs hloc) (fun h₁ hn hk₁ => ?_) hco hgen hk
  refine wpAny_mono (k h₁ _ ⟨hk₁, hn, fun n c e => ?_, fun a ha => (nomatch ha), fun p hp => (nomatch hp), by simp, fun a ha => ?_⟩) (fun _ _ x => x) fun _ _ x => x.elim
  · have : (callEnv fd h.objs.size a).cells = [] := hclo
    rw [this] at e; cases e
  · have : a = h.objs.size := by simpa [callEnv, newEnv] using ha
    rw [this]; exact size_none h

def colF (cs : List Nat) (size : Int) : Int := cs.foldl (fun a c => if c = 9 then a + (size - a.fmod size) else a + 1) 0
theorem colF_snoc (cs : List Nat) (c : Nat) (size : Int) : colF (cs ++ [c]) size = if c = 9 then colF cs size + (size - (colF cs size).fmod size) else colF cs size + 1 := by
  simp [colF, List.foldl_append]
theorem take_snoc {α : Type} {l : List α} {i : Nat} {x : α} (h : l[i]? = some x) : l.take (i + 1) = l.take i ++ [x] := by
  obtain ⟨hi, rfl⟩ := List.getElem?_eq_some_iff.mp h
  rw [List.take_succ_eq_append_getElem hi]

set_option maxHeartbeats 2000000 in
theorem col_ok {lead : Str} {size : Int} {u1 u2 : Tok} (U : Up w mg mb h) (hr : A.depth + 20 < recursionLimit) (hh : A.handled = none) (ha : lead.cps.all (· < 128) = true) (hs : size ≠ 0)
    (k : ∀ h' t' u, Kp h h' → R (.ok (.ret (.int (colF lead.cps.toList size) u))) ⟨h', g, d, t', os⟩) :
    codeAny (model prog w) A (.call (.ref 115) ⟨[.str lead u1, .int size u2], []⟩) R ⟨h, g, d, t, os⟩ := by
  refine call_of (binds := [(Str.ofString "lead", .str lead u1), (Str.ofString "size", .int size u2)]) U (by first | assumption | exact Nat.le_trans (by assumption) (by decide) | exact Nat.lt_of_lt_of_le (by assumption) (by decide) | exact Int.natCast_nonneg _ | exact Int.ofNat_lt.mpr (lt4 (by assumption)) | exact dep (by assumption) (by decide) | omega) rfl rfl rfl rfl rfl rfl rfl rfl fun h₁ t₁ S => ?_
  refine wpAny_execs_cons (wpAny_Assign_Name (r_int fun u t => r_st S rfl fun h₁ t₁ S => ?_))
  refine wpAny_execs_cons (wpAny_For (r_nm S rfl rfl (r_iterS S ha fun I h₁ S hI => ?_)))
  refine loopW (Walks.strAscii (by exact hh) I lead _) (fun a ha q => absurd (List.mem_singleton.mp ha) q) (fun i h q => let ⟨o, ho, _⟩ := q; ⟨o, ho⟩) S hI
    (fun i _ m _ own => own = [] ∧ (∃ u, m (Str.ofString "at") = some (.int (colF (lead.cps.toList.take i) size) u)) ∧ ∃ u, m (Str.ofString "size") = some (.int size u)) ⟨rfl, ⟨_, rfl⟩, _, rfl⟩ ?_ ?_
  · rintro i v b₁ m₁ cm₁ own₁ h₁ t₁ oI Q' E' hi ⟨c, u, hc, rfl⟩ kb hJJ S hQ
    obtain ⟨rfl, ⟨ua, hat⟩, us, hsz⟩ := hJJ
    refine r_as S rfl fun h₁ t₁ S => ?_
    refine wpAny_execs_cons (wpAny_If (wpAny_isTrue_Compare1 (r_nm S rfl rfl (r_str fun u t => eq_str (wpAny_truthy_bool ?_)))))
    by_cases hc9 : ((⟨#[c]⟩ : Str) == Str.ofString "\t") = true
    · have c9 : c = 9 := by
        have := congrArg Str.cps (eq_of_beq hc9)
        have e : (Str.ofString "\t").cps = #[9] := by decide +kernel
        rw [e] at this
        simpa using this
      rw [if_pos hc9]
      refine wpAny_execs_cons (wpAny_AugAssign_Name (r_ld S rfl (by exact hat) (wpAny_BinOp (r_nm S rfl (by exact hsz) (wpAny_BinOp (r_nm S rfl (by exact hat) (r_nm S rfl (by exact hsz) (r_mod hs fun u t => r_sub fun u t => r_iadd fun ur t => r_st S rfl fun h₁ t₁ S => ?_))))))))
      refine wpAny_execs_nil ?_
      refine wpAny_execs_nil ?_
      refine (hQ _ _ _ _ _ _ (Kp.refl _) S ⟨rfl, ⟨ur, ?_⟩, _, hsz⟩)
      rw [take_snoc (x := c) (by simpa using hc), colF_snoc, if_pos c9]; rfl
    · have c9 : c ≠ 9 := fun e => hc9 (by subst e; decide +kernel)
      rw [if_neg hc9]
      refine wpAny_execs_cons (wpAny_AugAssign_Name (r_ld S rfl (by exact hat) (r_int fun u t => r_iadd fun ur t => r_st S rfl fun h₁ t₁ S => ?_)))
      refine wpAny_execs_nil ?_
      refine wpAny_execs_nil ?_
      refine (hQ _ _ _ _ _ _ (Kp.refl _) S ⟨rfl, ⟨ur, ?_⟩, _, hsz⟩)
      rw [take_snoc (x := c) (by simpa using hc), colF_snoc, if_neg c9]; rfl
  · rintro b₁ m₁ cm₁ own₁ h₁ t₁ kb ⟨rfl, ⟨ua, hat⟩, us, hsz⟩ S
    refine wpAny_execs_cons (wpAny_Return_some (r_nm S rfl (by exact hat) ?_))
    have : lead.cps.toList.take lead.cps.size = lead.cps.toList := by rw [← Array.length_toList, List.take_length]
    rw [this]
    exact k _ _ _ (kb.trans S.keep)
end Mine

open PySem PySem.W PyProof.Rows PySem.Calls
set_option Elab.async false
set_option maxRecDepth 100000
namespace Mine
variable {prog : Program} {w : World} {A : Around} {E : Value → Shared → Prop} {mg mb : Str → Option Value}
variable {b h : Heap} {env : Env} {wc : List (Str × Addr)} {m cm : Str → Option Value} {own : Own} {g : Array GenState} {d : Drawn} {t : Nat} {os : OsState}
variable {R : Result → Shared → Prop}

/-- the heap less the first own object: the state of the others stands in it -/
theorem St.hideI {a : Addr} {P : Obj → Prop} (S : St b env wc m cm ((a, P) :: own) h) : St b env wc m cm own (hideAll h [a]) := by
  have k : ∀ x o, x ≠ a → h.get? x = some o → (hideAll h [a]).get? x = some o := fun x o hx e => hideAll_get _ e (by simpa using hx)
  exact S.drop1.off S.headOut (S.nb a (St.mem (i := 0) rfl)) k

def isL (vs : List Value) (o : Obj) : Prop := ∃ n, o = { cls := .type "list", data := .seq vs.toArray n }
def isNs (o : Obj) : Prop := ∃ es ep, o.data = .dict es ep ∧ StrKeys es
theorem isL_plain {a : Addr} {vs : List Value} {o : Obj} (ho : h.get? a = some o) (hP : isL vs o) : h.PlainList a vs.toArray := let ⟨n, e⟩ := hP; ⟨n, e ▸ ho⟩
theorem isL_list {a : Addr} {vs : List Value} {o : Obj} (ho : h.get? a = some o) (hP : isL vs o) : h.IsList a vs.toArray := (isL_plain ho hP).isList

theorem none_of_kp {h h' : Heap} {a : Addr} (k : Kp h h') (e : h'.get? a = none) : h.get? a = none := by
  cases q : h.get? a with
  | none => rfl
  | some o => rw [k _ _ q] at e; cases e
theorem St.adopt {h' : Heap} {a : Addr} {o : Obj} {P : Obj → Prop} (S : St b env wc m cm own h) (k : Kp h h') (hn : h.get? a = none) (ho : h'.get? a = some o) (hP : P o) : St b env wc m cm ((a, P) :: own) h' := by
  have S' := S.kp k
  have hout := S.out hn
  have hb := none_of_kp S.keep hn
  refine ⟨S'.keep, S'.ns, S'.cell, S'.wx, fun p hp => ?_, ?_, fun x hx => ?_⟩
  · rcases List.mem_cons.mp hp with rfl | hp
    · exact ⟨o, ho, hP⟩
    · exact S'.ow p hp
  · have nd := S.nd
    rw [List.nodup_cons, List.nodup_append] at nd ⊢
    rw [List.map_cons, List.nodup_cons]
    refine ⟨fun q => ?_, nd.2.1, ⟨fun q => hout (.tail _ (List.mem_append_right _ q)), nd.2.2.1⟩, fun x hx y hy => ?_⟩
    · rcases List.mem_append.mp q with q | q
      · exact nd.1 (List.mem_append_left _ q)
      · rcases List.mem_cons.mp q with q | q
        · exact hout (q ▸ List.mem_cons_self ..)
        · exact nd.1 (List.mem_append_right _ q)
    · rcases List.mem_cons.mp hy with rfl | hy
      · exact fun q => hout (by rw [← q]; exact .tail _ (List.mem_append_left _ hx))
      · exact nd.2.2.2 x hx y hy
  · rcases List.mem_cons.mp hx with rfl | hx
    · exact S.nb _ (List.mem_cons_self ..)
    · rcases List.mem_append.mp hx with hx | hx
      · exact S.nb _ (.tail _ (List.mem_append_left _ hx))
      · rcases List.mem_cons.mp hx with rfl | hx
        · exact hb
        · exact S.nb _ (.tail _ (List.mem_append_right _ hx))
theorem St.compEnd {bc b₁ h₃ : Heap} {cenv : Env} {wc' : List (Str × Addr)} {m' cm' : Str → Option Value} {own' : Own} (Sb : St b env wc m cm own bc) (kb : Kp bc b₁) (S₃ : St b₁ cenv wc' m' cm' own' h₃) (hCn : bc.get? cenv.locals = none) :
    ∃ b', Kp b b' ∧ (∀ a o, bc.get? a = none → b₁.get? a = some o → b'.get? a = some o) ∧ (∀ a o, bc.get? a = none → a ≠ cenv.locals → h₃.get? a = some o → b'.get? a = some o) ∧ St b' env wc m cm ((cenv.locals, isNs) :: own) h₃ := by
  obtain ⟨oC, es, ep, hC3, hCd, hCk, hCf⟩ := S₃.ns
  obtain ⟨b', kb', S', hb'⟩ := (Sb.adopt (P := isNs) (kb.trans S₃.keep) hCn hC3 ⟨es, ep, hCd, hCk⟩).grow (Kp.refl h₃)
  have outC : ∀ a, bc.get? a = none → a ≠ cenv.locals → a ∉ env.locals :: (wc.map (·.2) ++ ((cenv.locals, isNs) :: own).map (·.1)) := fun a ha hne q => by
    have hn := Sb.out ha
    rcases List.mem_cons.mp q with q | q
    · exact hn (q ▸ List.mem_cons_self ..)
    · rcases List.mem_append.mp q with q | q
      · exact hn (.tail _ (List.mem_append_left _ q))
      · rcases List.mem_cons.mp q with q | q
        · exact hne q
        · exact hn (.tail _ (List.mem_append_right _ q))
  refine ⟨b', kb', fun a o ha e => hb' a o (outC a ha ?_) (S₃.keep a o e), fun a o ha hne e => hb' _ _ (outC a ha hne) e, S'⟩
  rintro rfl
  have q := S₃.nb _ (List.mem_cons_self ..)
  rw [q] at e
  cases e

theorem len_snoc {α : Type} {ys : List α} {y : α} {i : Nat} (h : ys.length ≤ i) : (ys ++ [y]).length ≤ i + 1 := by rw [List.length_append]; exact Nat.succ_le_succ h
inductive CSt (bc : Heap) (cenv : Env) (cm : Str → Option Value) (I D : Addr) (n : Nat) (J : Nat → Heap → List Value → Prop) (Ws : Nat → Heap → Prop) (g : Array GenState) (d : Drawn) (os : OsState) (k : Nat) (s' : Shared) : Prop
  | mk (i : Nat) (b₁ : Heap) (m₁ : Str → Option Value) (ys : List Value) (h₁ : Heap) (t₁ : Nat) (PI' : Obj → Prop) (e : s' = ⟨h₁, g, d, t₁, os⟩) (hi : i ≤ n) (hk : k = n + 1 - i) (kb : Kp bc b₁) (hJ : J i b₁ ys) (hyl : ys.length ≤ i) (S : St b₁ cenv [] m₁ cm [(I, PI'), (D, isL ys)] h₁) (hs : Ws i h₁) : CSt bc cenv cm I D n J Ws g d os k s'
inductive CNx (cenv : Env) (cm : Str → Option Value) (I : Addr) (oI : Obj) (D : Addr) (J : Heap → List Value → Prop) (b₁ : Heap) (ys : List Value) (g : Array GenState) (d : Drawn) (os : OsState) (ys' : List Value) (s' : Shared) : Prop
  | mk (b₂ : Heap) (m₂ : Str → Option Value) (h₂ : Heap) (t₂ : Nat) (e : s' = ⟨h₂, g, d, t₂, os⟩) (k : Kp b₁ b₂) (S : St b₂ cenv [] m₂ cm [(I, fun o => o = oI), (D, isL ys)] h₂) (hJ : J b₂ ys') : CNx cenv cm I oI D J b₁ ys g d os ys' s'
theorem compW {elt iter : Expr} {x : Str} {px : Pos} {ifs : List Expr} {scope : Scope} {cl : List (Str × Addr)} {pos : Pos} {I : Addr} {PI : Obj → Prop} {fp : List Addr} {n : Nat} {P : Nat → Value → Prop} {Ws : Nat → Heap → Prop}
    {RR : Value → Addr → Result → Shared → Prop}
    (W : Walks prog w A I fp [I] n P Ws) (hfp : ∀ a ∈ fp, ∃ o, h.get? a = some o) (hI : ∀ i h, Ws i h → ∃ o, h.get? I = some o)
    (S : St b env wc m cm ((I, PI) :: own) h) (hst : Ws 0 h) (hcl : ∀ n c, cl.lookup n = some c → env.cells.lookup n = some c)
    (hcell : (scope.names.all fun y => decide (y.2 ≠ .cell)) = true) (hkind : scope.kind = .function) (hx : scope.names.lookup x = some .local) (hsz : n ≤ sizeLine)
    (J : Heap → Nat → Heap → List Value → Prop) (h0 : ∀ bc, Kp b bc → St b env wc m cm own bc → J bc 0 bc [])
    (step : ∀ i v bc C D b₁ m₁ ys h₁ t₁ oI E' (Q' : Value → Shared → Prop) (Z' : Shared → Prop), i < n → P i v → Kp b bc → St b env wc m cm own bc → Kp bc b₁ → J bc i b₁ ys → m₁ x = some v → St b₁ (compEnvC scope cl C env) [] m₁ cm [(I, fun o => o = oI), (D, isL ys)] h₁ →
      (∀ y b₂ m₂ h₂ t₂, Kp b₁ b₂ → St b₂ (compEnvC scope cl C env) [] m₂ cm [(I, fun o => o = oI), (D, isL ys)] h₂ → J bc (i + 1) b₂ (ys ++ [y]) → Q' y ⟨h₂, g, d, t₂, os⟩) →
      (∀ b₂ m₂ h₂ t₂, Kp b₁ b₂ → St b₂ (compEnvC scope cl C env) [] m₂ cm [(I, fun o => o = oI), (D, isL ys)] h₂ → J bc (i + 1) b₂ ys → Z' ⟨h₂, g, d, t₂, os⟩) →
      wpAny (model prog w) A (forIn ifs true fun c r => if r = true then do let ok ← isTrue c (compEnvC scope cl C env) (eval c (compEnvC scope cl C env)); pure (ForInStep.yield ok) else pure (ForInStep.yield r))
        (fun ok s₃ => if ok = true then wpAny (model prog w) A (eval elt (compEnvC scope cl C env)) Q' E' s₃ else Z' s₃) E' ⟨h₁, g, d, t₁, os⟩)
    (fin : ∀ bc b₁ b' C D ys h' t', J bc n b₁ ys → Kp b bc → Kp b b' → (∀ a o, bc.get? a = none → b₁.get? a = some o → b'.get? a = some o) → bc.get? D = none → b'.PlainList D ys.toArray →
      St b' env wc m cm ((C, isNs) :: own) h' → RR (.ref D) C (.ok .next) ⟨h', g, d, t', os⟩) :
    wpAny (model prog w) A (newList []) (fun acc s₃ => wpAny (model prog w) A (newFunctionEnv scope env.globals cl [] env.qual none .none (some env)) (fun cenv s₄ =>
      codeAny (model prog w) A (.compStart (.ListComp elt [⟨.Name x px, iter, ifs, 0⟩] scope pos) 0 (.ref I) acc { cenv with scope := relabel scope env }) (RR acc cenv.locals) s₄) E s₃) E ⟨h, g, d, t, os⟩ := by
  have hcell' : ∀ y ∈ scope.names, y.2 ≠ .cell := fun y hy => of_decide_eq_true (List.all_eq_true.mp hcell y hy)
  refine wpAny_newObj_type (wpAny_newFunctionEnv hcell' (by intro y hy; simp at hy) (fun h₂ hns₂ hsb₂ => ?_) hkind)
  dsimp only at hns₂ hsb₂ ⊢
  generalize hH1 : h.push { cls := .type "list", dict := none, data := .seq ([] : List Value).toArray } = H1 at hns₂ hsb₂ ⊢
  have hC : H1.objs.size = h.objs.size + 1 := by rw [← hH1, Heap.size_push]
  have hI0 := S.lt I (St.mem (i := 0) rfl)
  have hDC : h.objs.size ≠ H1.objs.size := by omega
  have hIC : I ≠ H1.objs.size := Nat.ne_of_lt (hC ▸ Nat.lt_succ_of_lt hI0)
  have hID : I ≠ h.objs.size := Nat.ne_of_lt hI0
  have old : Kp h h₂ := fun a o e => hsb₂.extBut a o (Nat.ne_of_lt (hC ▸ Nat.lt_succ_of_lt (Heap.lt_size e))) (Heap.get?_push_of_some _ (hH1 ▸ Heap.get?_push_of_some _ e))
  have hD : h₂.get? h.objs.size = some { cls := .type "list", dict := none, data := .seq ([] : List Value).toArray } := hsb₂.extBut _ _ hDC (Heap.get?_push_of_some _ (hH1 ▸ Heap.get?_push_size _ rfl))
  obtain ⟨oI, hoI, _⟩ := S.at (i := 0) rfl
  have Sb := S.hideI
  have kbc : Kp b (hideAll h [I]) := Sb.keep
  have nbI : b.get? I = none := S.nb I (St.mem (i := 0) rfl)
  have kbh : Kp (hideAll h [I]) h := fun a o e => of_hideAll _ e
  have nbc : ∀ a, h.get? a = none → (hideAll h [I]).get? a = none := fun a ha => by
    cases q : (hideAll h [I]).get? a with
    | none => rfl
    | some o => rw [of_hideAll _ q] at ha; cases ha
  have noneGe : ∀ a, h.objs.size ≤ a → h.get? a = none := fun a ha => Heap.get?_none_of_le ha
  generalize hbc : hideAll h [I] = bc at Sb kbc kbh nbc
  have bcI : bc.get? I = none := by rw [← hbc]; exact hideAll_none _ (List.mem_cons_self ..)
  have hbcget : ∀ a o, a ≠ I → h.get? a = some o → bc.get? a = some o := fun a o ha e => by rw [← hbc]; exact hideAll_get _ e (by simpa using ha)
  have S₂ : St bc (compEnvC scope cl H1.objs.size env) [] (fun y => ([] : List (Str × Value)).reverse.lookup y) cm [(I, fun o => o = oI), (h.objs.size, isL [])] h₂ := by
    refine ⟨kbh.trans old, hns₂, fun n c e => ?_, fun a ha => (nomatch ha), fun p hp => ?_, ?_, fun a ha => ?_⟩
    · obtain ⟨⟨o, ho, hd⟩, hw⟩ := S.cell n c (hcl n c e)
      have hcI : c ≠ I := fun q => by
        subst q
        rcases hw with hw | ⟨o', hw⟩
        · exact S.headOut (.tail _ (List.mem_append_left _ (lookup_mem hw)))
        · rw [nbI] at hw; cases hw
      exact ⟨⟨o, old _ _ ho, hd⟩, .inr ⟨o, hbcget c o hcI ho⟩⟩
    · rcases List.mem_cons.mp hp with rfl | hp
      · exact ⟨oI, old _ _ hoI, rfl⟩
      · rw [List.mem_singleton.mp hp]; exact ⟨_, hD, _, rfl⟩
    · show [H1.objs.size, I, h.objs.size].Nodup
      have e1 : ¬ H1.objs.size = I := fun e => hIC e.symm
      have e2 : ¬ H1.objs.size = h.objs.size := fun e => hDC e.symm
      simp [e1, e2, hID]
    · have ha : a ∈ [H1.objs.size, I, h.objs.size] := ha
      simp only [List.mem_cons, List.not_mem_nil, or_false] at ha
      rcases ha with rfl | rfl | rfl
      · exact nbc _ (noneGe _ (by first | assumption | exact Nat.le_trans (by assumption) (by decide) | exact Nat.lt_of_lt_of_le (by assumption) (by decide) | exact Int.natCast_nonneg _ | exact Int.ofNat_lt.mpr (lt4 (by assumption)) | exact dep (by assumption) (by decide) | omega))
      · exact bcI
      · exact nbc _ (noneGe _ (Nat.le_refl _))
  have hst₂ : Ws 0 h₂ := W.frame _ _ _ hst fun a ha o e => old a o e
  have loop : ∀ t₂, codeAny (model prog w) A (.compLoop (.ListComp elt [⟨.Name x px, iter, ifs, 0⟩] scope pos) 0 (.ref I) (.ref h.objs.size) (compEnvC scope cl H1.objs.size env)) (RR (.ref h.objs.size) H1.objs.size) ⟨h₂, g, d, t₂, os⟩ := by
    intro t₂
    refine codeAny_compLoop_tests (CSt bc (compEnvC scope cl H1.objs.size env) cm I h.objs.size n (J bc) Ws g d os) ?_ (n + 1)
      ⟨0, bc, _, [], h₂, t₂, _, rfl, Nat.zero_le _, rfl, Kp.refl bc, h0 bc kbc Sb, Nat.zero_le _, S₂, hst₂⟩
    rintro k s' ⟨i, b₁, m₁, ys, h₁, t₁, PI', rfl, hi, rfl, kb, hJ, hyl, S₁, hs₁⟩
    by_cases hlt : i < n
    · refine W.item i _ _ _ hlt hs₁ fun v h₂' t₂' hP hs₂ hk => ?_
      obtain ⟨oI', hoI'⟩ := hI _ _ hs₂
      have S₃ : St b₁ (compEnvC scope cl H1.objs.size env) [] m₁ cm [(I, fun o => o = oI'), (h.objs.size, isL ys)] h₂' := S₁.setO (i := 0) (P' := fun o => o = oI') rfl (fun x o hx e => hk x o (by simpa using hx) e) hoI' rfl
      refine r_as S₃ (lookup_relabel_local hx) (fun h₃ t₃ S₄ => ?_) (by simp [compEnvC, relabel, hkind])
      have keepI : ∀ {b₂ : Heap} {m₂ : Str → Option Value} {h₄ : Heap} {P' : Obj → Prop}, Kp b₁ b₂ → St b₂ (compEnvC scope cl H1.objs.size env) [] m₂ cm [(I, fun o => o = oI'), (h.objs.size, P')] h₄ → Ws (i + 1) h₄ := fun kb' S' =>
        W.frame _ _ _ hs₂ fun a ha o e => by
          by_cases q : a = I
          · subst q
            obtain ⟨o', ho', rfl⟩ := S'.at (i := 0) rfl
            rw [hoI'] at e; cases e; exact ho'
          · obtain ⟨o', ho'⟩ := hfp a ha
            have hb1 := kb _ _ (hbcget a o' q ho')
            have e1 := S₃.keep _ _ hb1
            rw [e1] at e; cases e
            exact S'.keep _ _ (kb' _ _ hb1)
      refine wpAny_mono (step i v bc H1.objs.size h.objs.size b₁ _ ys h₃ t₃ oI' _ (fun y => CNx (compEnvC scope cl H1.objs.size env) cm I oI' h.objs.size (J bc (i + 1)) b₁ ys g d os (ys ++ [y]))
        (CNx (compEnvC scope cl H1.objs.size env) cm I oI' h.objs.size (J bc (i + 1)) b₁ ys g d os ys) hlt hP kbc Sb kb hJ (by simp [upd]) S₄ (fun y b₂ m₂ h₂ t₂ k S j => ⟨b₂, m₂, h₂, t₂, rfl, k, S, j⟩) (fun b₂ m₂ h₂ t₂ k S j => ⟨b₂, m₂, h₂, t₂, rfl, k, S, j⟩)) (fun ok s₃ q => ?_) fun _ _ e => e
      cases ok with
      | false =>
        obtain ⟨b₂, m₂, h₄, t₄, rfl, kb₂, S₅, hJ'⟩ := ifF' q
        exact ifF ⟨n + 1 - (i + 1), dec1 hlt, i + 1, b₂, m₂, ys, h₄, t₄, _, rfl, hlt, rfl, kb.trans kb₂, hJ', Nat.le_succ_of_le hyl, S₅, keepI kb₂ S₅⟩
      | true =>
        refine ifT (wpAny_mono (ifT' q) (fun y s₄ q => ?_) fun _ _ e => e)
        obtain ⟨b₂, m₂, h₄, t₄, rfl, kb₂, S₅, hJ'⟩ := q
        obtain ⟨oD, hoD, hPD⟩ := S₅.at (i := 1) rfl
        refine wpAny_list_append_plain (isL_plain hoD hPD) (fun h₅ hl₅ hs₅ => ?_) (by rw [List.size_toArray]; omega)
        obtain ⟨n5, ho5⟩ := hl₅
        rw [List.push_toArray] at ho5
        have S₆ := S₅.setO (i := 1) (P' := isL (ys ++ [y])) rfl hs₅.extBut ho5 ⟨n5, rfl⟩
        exact ⟨n + 1 - (i + 1), dec1 hlt, i + 1, b₂, m₂, ys ++ [y], h₅, t₄, _, rfl, hlt, rfl, kb.trans kb₂, hJ', len_snoc hyl, S₆, keepI kb₂ S₆⟩
    · have hin : i = n := Nat.le_antisymm hi (Nat.not_lt.mp hlt)
      subst hin
      refine W.done _ _ _ hs₁ fun h₃ t₃ hk => ?_
      have S₃ := S₁.drop1.off S₁.headOut (S₁.nb I (St.mem (i := 0) rfl)) (fun x o hx e => hk x o (by simpa using hx) e)
      obtain ⟨oD, hoD, hPD⟩ := S₃.at (i := 0) rfl
      have hCn : bc.get? H1.objs.size = none := nbc _ (noneGe _ (hC ▸ Nat.le_succ _))
      have hDn : bc.get? h.objs.size = none := nbc _ (noneGe _ (Nat.le_refl _))
      obtain ⟨b', kb', hb1, hb2, S'⟩ := Sb.compEnd kb S₃ hCn
      exact fin bc b₁ b' _ _ ys h₃ t₃ hJ kbc kb' hb1 hDn (isL_plain (hb2 _ _ hDn hDC hoD) hPD) S'
  exact codeAny_compStart_list (loop _) (W.self 0 _ _ _ hst₂ (loop _))
end Mine

open PySem PySem.W PyProof.Rows PySem.Calls
set_option Elab.async false
set_option maxRecDepth 100000
namespace Mine
variable {prog : Program} {w : World} {A : Around} {E : Value → Shared → Prop} {mg mb : Str → Option Value}
variable {b h : Heap} {env : Env} {wc : List (Str × Addr)} {m cm : Str → Option Value} {own : Own} {g : Array GenState} {d : Drawn} {t : Nat} {os : OsState}
variable {R : Result → Shared → Prop}

theorem bb_len : bootBuiltins (Str.ofString "len") = some (.builtin "len") := by boot_by_name
theorem bb_range : bootBuiltins (Str.ofString "range") = some (.type "range") := by boot_by_name
theorem bb_max : bootBuiltins (Str.ofString "max") = some (.builtin "max") := by boot_by_name
theorem bb_min : bootBuiltins (Str.ofString "min") = some (.builtin "min") := by boot_by_name
theorem bb_sum : bootBuiltins (Str.ofString "sum") = some (.builtin "sum") := by boot_by_name
theorem bb_str : bootBuiltins (Str.ofString "str") = some (.type "str") := by boot_by_name
theorem bb_list : bootBuiltins (Str.ofString "list") = some (.type "list") := by boot_by_name
theorem bb_tuple : bootBuiltins (Str.ofString "tuple") = some (.type "tuple") := by boot_by_name
theorem bb_filter : bootBuiltins (Str.ofString "filter") = some (.type "filter") := by boot_by_name

theorem r_arg1 {e : Expr} {pos : Pos} {s : Shared} {Q : List Value → Shared → Prop} (q : wpAny (model prog w) A (eval e env) (fun v s₁ => Q [v] s₁) E s) (he : starEach [e] env = [(false, eval e env)] := by rfl) :
    wpAny (model prog w) A (spliced (backTo pos (starEach [e] env))) Q E s := by
  rw [he]; exact Calls.spliced_cons (wpAny_mono q (fun _ _ x => Calls.spliced_nil x) fun _ _ x => x)
theorem r_arg2 {e e' : Expr} {pos : Pos} {s : Shared} {Q : List Value → Shared → Prop} (q : wpAny (model prog w) A (eval e env) (fun v s₁ => wpAny (model prog w) A (eval e' env) (fun v' s₂ => Q [v, v'] s₂) E s₁) E s)
    (he : starEach [e, e'] env = [(false, eval e env), (false, eval e' env)] := by rfl) : wpAny (model prog w) A (spliced (backTo pos (starEach [e, e'] env))) Q E s := by
  rw [he]; exact Calls.spliced_cons (wpAny_mono q (fun _ _ x => Calls.spliced_cons (wpAny_mono x (fun _ _ x => Calls.spliced_nil x) fun _ _ x => x)) fun _ _ x => x)
theorem r_arg3 {e e' e'' : Expr} {pos : Pos} {s : Shared} {Q : List Value → Shared → Prop}
    (q : wpAny (model prog w) A (eval e env) (fun v s₁ => wpAny (model prog w) A (eval e' env) (fun v' s₂ => wpAny (model prog w) A (eval e'' env) (fun v'' s₃ => Q [v, v', v''] s₃) E s₂) E s₁) E s)
    (he : starEach [e, e', e''] env = [(false, eval e env), (false, eval e' env), (false, eval e'' env)] := by rfl) : wpAny (model prog w) A (spliced (backTo pos (starEach [e, e', e''] env))) Q E s := by
  rw [he]; exact Calls.spliced_cons (wpAny_mono q (fun _ _ x => Calls.spliced_cons (wpAny_mono x (fun _ _ x => Calls.spliced_cons (wpAny_mono x (fun _ _ x => Calls.spliced_nil x) fun _ _ x => x)) fun _ _ x => x)) fun _ _ x => x)
theorem r_arg0 {pos : Pos} {s : Shared} {Q : List Value → Shared → Prop} (q : Q [] s) : wpAny (model prog w) A (spliced (backTo pos (starEach [] env))) Q E s := Calls.spliced_nil q

/-- a call of a built-in function by its name, one argument or two -/
theorem r_b1 {x : Str} {p pos : Pos} {e : Expr} {id : String} {Q : Value → Shared → Prop} (U : Up w mg mb b) (S : St b env wc m cm own h) (hx : env.kindOf x = some .globalImplicit) (hn : nsIn (KK w) mainGlobals x = some none) (hv : bootBuiltins x = some (.builtin id))
    (q : wpAny (model prog w) A (eval e env) (fun v s₁ => wpAny (model prog w) A (call (.builtin id) [v]) Q E s₁) E ⟨h, g, d, t, os⟩) (he : starEach [e] env = [(false, eval e env)] := by rfl)
    (hk : env.scope.kind = .function := by rfl) (hg : env.globals = mainGlobals := by rfl) (hb : env.builtins = builtinsNs := by rfl) (hne : x ≠ ("__name__" : Str) := by decide) (hd : (x == ("__debug__" : Str)) = false := by rfl) :
    wpAny (model prog w) A (eval (.Call (.Name x p) [e] [] pos) env) Q E ⟨h, g, d, t, os⟩ :=
  wpAny_Call_NameR (r_nmb U S hx hn hv (PyProof.Rows.callWith_builtin1 (r_arg1 q he) he (by rfl)) hk hg hb hne hd)
theorem r_b2 {x : Str} {p pos : Pos} {e e' : Expr} {id : String} {Q : Value → Shared → Prop} (U : Up w mg mb b) (S : St b env wc m cm own h) (hx : env.kindOf x = some .globalImplicit) (hn : nsIn (KK w) mainGlobals x = some none) (hv : bootBuiltins x = some (.builtin id))
    (q : wpAny (model prog w) A (eval e env) (fun v s₁ => wpAny (model prog w) A (eval e' env) (fun v' s₂ => wpAny (model prog w) A (call (.builtin id) [v, v']) Q E s₂) E s₁) E ⟨h, g, d, t, os⟩) (he : starEach [e, e'] env = [(false, eval e env), (false, eval e' env)] := by rfl)
    (hk : env.scope.kind = .function := by rfl) (hg : env.globals = mainGlobals := by rfl) (hb : env.builtins = builtinsNs := by rfl) (hne : x ≠ ("__name__" : Str) := by decide) (hd : (x == ("__debug__" : Str)) = false := by rfl) :
    wpAny (model prog w) A (eval (.Call (.Name x p) [e, e'] [] pos) env) Q E ⟨h, g, d, t, os⟩ := by
  have he' : starEach [e'] env = [(false, eval e' env)] := by
    cases e <;> first | exact (List.cons.inj he).2 | (exfalso; cases he)
  refine wpAny_Call_NameR (r_nmb U S hx hn hv (PyProof.Rows.callWith_builtin1 (r_arg2 q he) (he.trans (by rw [he'])) (by rw [he']; rfl)) hk hg hb hne hd)
theorem r_t1 {x : Str} {p pos : Pos} {e : Expr} {T : String} {Q : Value → Shared → Prop} (U : Up w mg mb b) (S : St b env wc m cm own h) (hx : env.kindOf x = some .globalImplicit) (hn : nsIn (KK w) mainGlobals x = some none) (hv : bootBuiltins x = some (.type T))
    (q : wpAny (model prog w) A (eval e env) (fun v s₁ => wpAny (model prog w) A (call (.type T) [v]) Q E s₁) E ⟨h, g, d, t, os⟩) (he : starEach [e] env = [(false, eval e env)] := by rfl)
    (hk : env.scope.kind = .function := by rfl) (hg : env.globals = mainGlobals := by rfl) (hb : env.builtins = builtinsNs := by rfl) (hne : x ≠ ("__name__" : Str) := by decide) (hd : (x == ("__debug__" : Str)) = false := by rfl) :
    wpAny (model prog w) A (eval (.Call (.Name x p) [e] [] pos) env) Q E ⟨h, g, d, t, os⟩ :=
  wpAny_Call_NameR (r_nmb U S hx hn hv (PyProof.Rows.callWith_type1 (r_arg1 q he) he (by rfl)) hk hg hb hne hd)
end Mine

open PySem PySem.W PyProof.Rows PySem.Calls
set_option Elab.async false
set_option maxRecDepth 100000
namespace Mine
variable {prog : Program} {w : World} {A : Around} {E : Value → Shared → Prop} {mg mb : Str → Option Value}
variable {b h : Heap} {env : Env} {wc : List (Str × Addr)} {m cm : Str → Option Value} {own : Own} {g : Array GenState} {d : Drawn} {t : Nat} {os : OsState}
variable {R : Result → Shared → Prop}

/-- a def of the top whose locals are captured is called -/
theorem call_ofC {a : Addr} {o : Obj} {fd : FuncData} {body : List Stmt} {vals : List Value} {binds : List (Str × Value)} (U : Up w mg mb h) (hroom : A.depth < recursionLimit)
    (ho : (KK w).lookup a = some o) (hdata : o.data = .func fd) (hcd : codeIn (KK w) fd.code fd.qualname = true) (hbody : fd.body = .stmts body) (hbind : bindArgs fd ⟨vals, []⟩ = pure binds)
    (hclo : fd.closure = []) (hkind : ∀ n, ∀ x ∈ binds, fd.scope.names.lookup x.1 = some .local ∨ (fd.scope.names.lookup x.1 = some .cell ∧ ((cellsFrom n fd.scope.names []).lookup x.1).isSome = true))
    (hnd : ((cellsFrom 0 fd.scope.names []).map (·.1)).Nodup)
    (k : ∀ h₁ t₁, St h (callEnvC fd h.objs.size a) (cellsFrom (h.objs.size + 1) fd.scope.names []) (bindL (callEnvC fd h.objs.size a).kindOf binds fun _ => none) (bindC (callEnvC fd h.objs.size a).kindOf binds fun _ => none) [] h₁ →
      wpAny (model prog w) (A.deeper (callEnvC fd h.objs.size a)) (execs body (callEnvC fd h.objs.size a)) (fun f s' => R (.ok (.ret (match f with | .ret v => v | _ => .none))) s') (fun _ _ => False) ⟨h₁, g, d, t₁, os⟩)
    (hco : fd.scope.isCoroutine = false := by rfl) (hgen : fd.scope.isGenerator = false := by rfl) (hk : fd.scope.kind = .function := by rfl) :
    codeAny (model prog w) A (.call (.ref a) ⟨vals, []⟩) R ⟨h, g, d, t, os⟩ := by
  refine codeAny_call_cells (fd := fd) hroom (U.kin _ _ ho) hdata U.lim (codeRec_of U.kin hcd) hbody hbind hclo (hkind _) (fun s₁ X => ?_) hco hgen hk
  obtain ⟨⟨⟨h₁, t₁, rfl⟩, hns, hkeep, hfresh⟩, hcell, hap, hab⟩ := X
  have hL : (callEnvC fd h.objs.size a).locals = h.objs.size := rfl
  have hC : (callEnvC fd h.objs.size a).cells = cellsFrom (h.objs.size + 1) fd.scope.names [] := rfl
  have hnd' : ((cellsFrom (h.objs.size + 1) fd.scope.names []).map (·.1)).Nodup := cellsFrom_names fd.scope.names 0 (h.objs.size + 1) [] [] rfl ▸ hnd
  have ge : ∀ a, h.objs.size ≤ a → h.get? a = none := fun a ha => Heap.get?_none_of_le ha
  refine wpAny_mono (k h₁ t₁ ⟨hkeep, hns, fun n c e => ⟨hcell n c e, .inl e⟩, fun a ha => ?_, fun p hp => (nomatch hp), ?_, fun a ha => ?_⟩) (fun _ _ x => x) fun _ _ x => x.elim
  · obtain ⟨⟨n, c⟩, hm, rfl⟩ := List.mem_map.mp ha
    obtain ⟨o, ho, _⟩ := hcell n c (lookup_of_mem_nodup hnd' hm)
    exact ⟨o, ho⟩
  · rw [List.map_nil, List.append_nil, List.nodup_cons]
    refine ⟨fun q => ?_, ?_⟩
    · obtain ⟨⟨n, c⟩, hm, e⟩ := List.mem_map.mp q
      exact absurd e (Nat.ne_of_gt (hab n c hm))
    · exact List.pairwise_map.mpr hap
  · rw [List.map_nil, List.append_nil] at ha
    rcases List.mem_cons.mp ha with rfl | ha
    · exact ge _ (Nat.le_refl _)
    · obtain ⟨⟨n, c⟩, hm, rfl⟩ := List.mem_map.mp ha
      exact ge _ (Nat.le_of_lt (hab n c hm))

theorem r_lenS {x : Str} {u : Tok} {Q : Value → Shared → Prop} (hx : x.length ≤ 1000) (q : ∀ u t', Q (.int (x.length : Int) u) ⟨h, g, d, t', os⟩) : wpAny (model prog w) A (call (.builtin "len") [.str x u]) Q E ⟨h, g, d, t, os⟩ := P.len_str (by first | assumption | exact Nat.le_trans (by assumption) (by decide) | exact Nat.lt_of_lt_of_le (by assumption) (by decide) | exact Int.natCast_nonneg _ | exact Int.ofNat_lt.mpr (lt4 (by assumption)) | exact dep (by assumption) (by decide) | omega) (q _ _)
theorem r_lenL {a : Addr} {vs : List Value} {Q : Value → Shared → Prop} (hl : h.IsList a vs.toArray) (hx : vs.length ≤ 1000) (q : ∀ u t', Q (.int (vs.length : Int) u) ⟨h, g, d, t', os⟩) : wpAny (model prog w) A (call (.builtin "len") [.ref a]) Q E ⟨h, g, d, t, os⟩ :=
  Calls.call_len_list hl (by rw [List.size_toArray]; omega) (by rw [List.size_toArray]; exact q _ _)
theorem rangeSize_nat (a : Int) (n : Nat) : Builtin.Range.rangeSize a (a + n) 1 = (n : Int) := by
  unfold Builtin.Range.rangeSize
  rw [if_pos (by decide)]
  by_cases h : a < a + n
  · rw [if_pos h, Int.ediv_one]; omega
  · rw [if_neg h]; omega
theorem rangeSize_to (a c : Int) : Builtin.Range.rangeSize a c 1 = ((c - a).toNat : Int) := by
  unfold Builtin.Range.rangeSize
  rw [if_pos (by decide)]
  by_cases h : a < c
  · rw [if_pos h, Int.ediv_one]; omega
  · rw [if_neg h]; omega
/-- range(i) and its iterator -/
theorem r_range1 {i : Int} {n : Nat} {u : Tok} {Q : Value → Shared → Prop} (S : St b env wc m cm own h) (hn : i = n) (hs : n ≤ 100000)
    (k : ∀ I h' t', St b env wc m cm ((I, fun _ => True) :: own) h' → IsRangeIter h' I (0 + ((0 : Nat) : Int) * 1) ((n : Int) - (0 : Nat)) 1 → Q (.ref I) ⟨h', g, d, t', os⟩) :
    wpAny (model prog w) A (call (.type "range") [.int i u]) (fun x s₁ => wpAny (model prog w) A (pyIter x) Q E s₁) E ⟨h, g, d, t, os⟩ := by
  subst hn
  refine PySem.call_range_1 ?_
  have S1 := S.kp (Kp.push h { cls := .type "range", data := .fields #[.int 0 t, .int (n : Int) u, .int 1 (t + 1)] })
  refine wpAny_pyIter_range (IsRange.new ..) (PySem.small_one (by omega) (by omega) (by omega) (by omega)) (k _ _ _ (S1.pushO rfl trivial) ?_)
  have e := rangeSize_nat 0 n
  rw [Int.zero_add] at e
  have e1 : (0 : Int) + ((0 : Nat) : Int) * 1 = 0 := by omega
  have e2 : (n : Int) - ((0 : Nat) : Int) = n := by omega
  rw [e, e1, e2]
  exact Heap.get?_push_size _ rfl
/-- range(i, j) and its iterator -/
theorem r_range2 {i j : Int} {n : Nat} {u v : Tok} {Q : Value → Shared → Prop} (S : St b env wc m cm own h) (hn : n = (j - i).toNat) (h1 : -100000 ≤ i) (h2 : i ≤ 100000) (h3 : -100000 ≤ j) (h4 : j ≤ 100000)
    (k : ∀ I h' t', St b env wc m cm ((I, fun _ => True) :: own) h' → IsRangeIter h' I (i + ((0 : Nat) : Int) * 1) ((n : Int) - (0 : Nat)) 1 → Q (.ref I) ⟨h', g, d, t', os⟩) :
    wpAny (model prog w) A (call (.type "range") [.int i u, .int j v]) (fun x s₁ => wpAny (model prog w) A (pyIter x) Q E s₁) E ⟨h, g, d, t, os⟩ := by
  subst hn
  refine PySem.call_range_2 ?_
  have S1 := S.kp (Kp.push h { cls := .type "range", data := .fields #[.int i u, .int j v, .int 1 t] })
  refine wpAny_pyIter_range (IsRange.new ..) (PySem.small_one (by first | assumption | exact Nat.le_trans (by assumption) (by decide) | exact Nat.lt_of_lt_of_le (by assumption) (by decide) | exact Int.natCast_nonneg _ | exact Int.ofNat_lt.mpr (lt4 (by assumption)) | exact dep (by assumption) (by decide) | omega) (by first | assumption | exact Nat.le_trans (by assumption) (by decide) | exact Nat.lt_of_lt_of_le (by assumption) (by decide) | exact Int.natCast_nonneg _ | exact Int.ofNat_lt.mpr (lt4 (by assumption)) | exact dep (by assumption) (by decide) | omega) (by first | assumption | exact Nat.le_trans (by assumption) (by decide) | exact Nat.lt_of_lt_of_le (by assumption) (by decide) | exact Int.natCast_nonneg _ | exact Int.ofNat_lt.mpr (lt4 (by assumption)) | exact dep (by assumption) (by decide) | omega) (by first | assumption | exact Nat.le_trans (by assumption) (by decide) | exact Nat.lt_of_lt_of_le (by assumption) (by decide) | exact Int.natCast_nonneg _ | exact Int.ofNat_lt.mpr (lt4 (by assumption)) | exact dep (by assumption) (by decide) | omega)) (k _ _ _ (S1.pushO rfl trivial) ?_)
  have e1 : i + ((0 : Nat) : Int) * 1 = i := by omega
  have e2 : ((j - i).toNat : Int) - ((0 : Nat) : Int) = (j - i).toNat := by omega
  rw [rangeSize_to, e1, e2]
  exact Heap.get?_push_size _ rfl
theorem rangeI {I : Addr} {x l c : Int} (q : IsRangeIter h I x l c) : ∃ o, h.get? I = some o := ⟨_, q⟩

/-- a list comprehension, up to its iterator -/
theorem r_lc {elt iter : Expr} {x : Str} {px : Pos} {ifs : List Expr} {scope : Scope} {cl : List (Str × Addr)} {pos : Pos} {s : Shared} {Q : Value → Shared → Prop} (hclos : closureFor scope env = pure cl) (hkind : scope.kind = .function)
    (hnames : (scope.names.all fun y => decide (y.2 = .local → scope.names.lookup y.1 = some .local)) = true)
    (q : wpAny (model prog w) A (eval iter env) (fun xv s₁ => wpAny (model prog w) A (pyIter xv) (fun it s₂ => wpAny (model prog w) A (newList []) (fun acc s₃ =>
      wpAny (model prog w) A (newFunctionEnv scope env.globals cl [] env.qual none .none (some env)) (fun cenv s₄ =>
        codeAny (model prog w) A (.compStart (.ListComp elt [⟨.Name x px, iter, ifs, 0⟩] scope pos) 0 it acc { cenv with scope := relabel scope env }) (compPost (model prog w) A E none Q acc cenv.locals) s₄) E s₃) E s₂) E s₁) E s)
    (hs : ∀ x, foldedSetIterable iter env x = pure x := by intro _; rfl) : wpAny (model prog w) A (eval (.ListComp elt [⟨.Name x px, iter, ifs, 0⟩] scope pos) env) Q E s := by
  rw [eval_ListComp]
  exact wpAny_comprehension_free (use := none) rfl hs hclos hkind (fun y hy => of_decide_eq_true (List.all_eq_true.mp hnames y hy)) q
/-- its value bound to a local of the frame -/
theorem r_alc {elt iter : Expr} {x y : Str} {px py : Pos} {ifs : List Expr} {scope : Scope} {cl : List (Str × Addr)} {pos spos : Pos} {s : Shared} {Q : Flow → Shared → Prop}
    (hsw : swapsWith (.ListComp elt [⟨.Name x px, iter, ifs, 0⟩] scope pos) (some (.Name y py)) spos.line env = pure true) (hclos : closureFor scope env = pure cl) (hkind : scope.kind = .function)
    (hnames : (scope.names.all fun y => decide (y.2 = .local → scope.names.lookup y.1 = some .local)) = true)
    (q : wpAny (model prog w) A (eval iter env) (fun xv s₁ => wpAny (model prog w) A (pyIter xv) (fun it s₂ => wpAny (model prog w) A (newList []) (fun acc s₃ =>
      wpAny (model prog w) A (newFunctionEnv scope env.globals cl [] env.qual none .none (some env)) (fun cenv s₄ =>
        codeAny (model prog w) A (.compStart (.ListComp elt [⟨.Name x px, iter, ifs, 0⟩] scope pos) 0 it acc { cenv with scope := relabel scope env }) (compPost (model prog w) A E (some (assign (.Name y py) env)) (fun _ s' => Q .next s') acc cenv.locals) s₄) E s₃) E s₂) E s₁) E s)
    (hs : ∀ x, foldedSetIterable iter env x = pure x := by intro _; rfl) : wpAny (model prog w) A (exec (.Assign [.Name y py] (.ListComp elt [⟨.Name x px, iter, ifs, 0⟩] scope pos) spos) env) Q E s := by
  rw [exec_Assign_Name_used _ _ _ _ hsw]
  refine wpAny_bind (wpAny_standAt (wpAny_bind ?_))
  show wpAny _ A (do let _ ← comprehension (.ListComp elt [⟨.Name x px, iter, ifs, 0⟩] scope pos) scope env _ (newList []) false (eval iter env) (some (assign (.Name y py) env))) _ _ s
  exact wpAny_bind (wpAny_mono (wpAny_comprehension_free (use := some (assign (.Name y py) env)) (Q := fun _ s' => Q .next s') rfl hs hclos hkind (fun y hy => of_decide_eq_true (List.all_eq_true.mp hnames y hy)) q) (fun _ s' hq => wpAny_pure (wpAny_pure hq)) fun _ _ e => e)
theorem post_none {C : Addr} {v : Value} {Q : Value → Shared → Prop} (S : St b env wc m cm ((C, isNs) :: own) h) (k : ∀ h', St b env wc m cm own h' → Q v ⟨h', g, d, t, os⟩) :
    compPost (model prog w) A E none Q v C (.ok .next) ⟨h, g, d, t, os⟩ := by
  obtain ⟨o, ho, es, ep, hd, hk⟩ := S.at (i := 0) rfl
  exact ⟨_, ⟨o, es, ep, ho, hd, hk, fun _ => rfl⟩, fun h' hs => k h' (S.drop1.off S.headOut (S.nb C (St.mem (i := 0) rfl)) hs.extBut)⟩
theorem post_use {C : Addr} {v : Value} {y : Str} {py : Pos} {Q : Value → Shared → Prop} (S : St b env wc m cm ((C, isNs) :: own) h) (hy : env.kindOf y = some .local) (k : ∀ h' t', St b env wc (upd m y v) cm own h' → Q .none ⟨h', g, d, t', os⟩)
    (hp : (env.scope.kind == .class || (env.scope.kind == .module && env.locals != env.globals)) = false := by rfl) :
    compPost (model prog w) A E (some (assign (.Name y py) env)) Q v C (.ok .next) ⟨h, g, d, t, os⟩ := by
  show wpAny _ _ (assign (.Name y py) env v) _ _ _
  refine r_as S hy (fun h₁ t₁ S => ?_) hp
  obtain ⟨o, ho, es, ep, hd, hk⟩ := S.at (i := 0) rfl
  exact ⟨_, ⟨o, es, ep, ho, hd, hk, fun _ => rfl⟩, fun h' hs => k h' _ (S.drop1.off S.headOut (S.nb C (St.mem (i := 0) rfl)) hs.extBut)⟩
end Mine

open PySem PySem.W PyProof.Rows PySem.Calls
set_option Elab.async false
set_option maxRecDepth 100000
namespace Mine
variable {prog : Program} {w : World} {A : Around} {E : Value → Shared → Prop} {mg mb : Str → Option Value}
variable {b h : Heap} {env : Env} {wc : List (Str × Addr)} {m cm : Str → Option Value} {own : Own} {g : Array GenState} {d : Drawn} {t : Nat} {os : OsState}
variable {R : Result → Shared → Prop}

theorem r_subS {value slice : Expr} {x : Str} {i : Int} {u v : Tok} {Q : Value → Shared → Prop} (h0 : -(x.length : Int) ≤ i) (h1 : i < x.length) (hx : x.length ≤ 1000) (q : ∀ u t', Q (.str (Txt.item x i) u) ⟨h, g, d, t', os⟩)
    (hs : subscripted slice false (.str x u) (.int i v) = operate [.str x u, .int i v] (getItem (.str x u) (.int i v)) := by with_unfolding_all rfl) : wpAny (model prog w) A (subscriptTail value slice (.str x u) (.int i v)) Q E ⟨h, g, d, t, os⟩ := by
  refine tail_any (typeIs_str _ x u) F.slot_str_getitem.lookup ?_ hs
  refine SB.getItem (by unfold fitsSsize; simp; omega) (charAt_isSome h0 h1) (q _ _)
theorem r_subSn {value slice : Expr} {x : Str} {p : Nat} {u v : Tok} {Q : Value → Shared → Prop} (hp : p < x.length) (hx : x.length ≤ 1000) (q : ∀ u t', Q (.str (Txt.item x (p : Int)) u) ⟨h, g, d, t', os⟩)
    (hs : subscripted slice false (.str x u) (.int (p : Int) v) = operate [.str x u, .int (p : Int) v] (getItem (.str x u) (.int (p : Int) v)) := by with_unfolding_all rfl) : wpAny (model prog w) A (subscriptTail value slice (.str x u) (.int (p : Int) v)) Q E ⟨h, g, d, t, os⟩ :=
  r_subS (by omega) (by omega) hx q hs
theorem r_subSm {value slice : Expr} {x : Str} {p : Nat} {u v : Tok} {Q : Value → Shared → Prop} (hp : p < x.length) (hx : x.length ≤ 1000) (q : ∀ u t', Q (.str (Txt.item x (-(p : Int) - 1)) u) ⟨h, g, d, t', os⟩)
    (hs : subscripted slice false (.str x u) (.int (-(p : Int) - 1) v) = operate [.str x u, .int (-(p : Int) - 1) v] (getItem (.str x u) (.int (-(p : Int) - 1) v)) := by with_unfolding_all rfl) : wpAny (model prog w) A (subscriptTail value slice (.str x u) (.int (-(p : Int) - 1) v)) Q E ⟨h, g, d, t, os⟩ :=
  r_subS (by omega) (by omega) hx q hs
theorem k100 {n : Nat} (h : n ≤ 100) : n ≤ 1000 := Nat.le_trans h (by decide)
theorem k2 {n : Nat} (h : n ≤ 2) : n ≤ 1000 := Nat.le_trans h (by decide)
theorem sl_pos {n p k : Nat} (h : n = k - p) (h0 : n ≠ 0) : p < k := by omega
theorem r_tuple2 {e e' : Expr} {k : Nat} {pos : Pos} {s : Shared} {Q : Value → Shared → Prop} (q : wpAny (model prog w) A (eval e env) (fun v s₁ => wpAny (model prog w) A (eval e' env) (fun v' s₂ => wpAny (model prog w) A (newTuple [v, v']) Q E s₂) E s₁) E s)
    (he : starEach [e, e'] env = [(false, eval e env), (false, eval e' env)] := by rfl) : wpAny (model prog w) A (eval (.Tuple [e, e'] k pos) env) Q E s := Tuple_ (r_arg2 q he)
/-- a tuple is made: it goes into the base -/
theorem r_newT {vs : List Value} {Q : Value → Shared → Prop} (S : St b env wc m cm own h) (hl : vs.length ≤ 1000) (q : ∀ a b' h', Kp b b' → St b' env wc m cm own h' → b'.get? a = some { cls := .type "tuple", data := .seq vs.toArray } → h.get? a = none → Q (.ref a) ⟨h', g, d, t, os⟩) :
    wpAny (model prog w) A (newTuple vs) Q E ⟨h, g, d, t, os⟩ := by
  obtain ⟨b', k, S', hb⟩ := S.pushB (o := { cls := .type "tuple", data := .seq vs.toArray }) rfl
  exact wpAny_newTuple (q _ b' _ k S' hb (size_none h)) (by rw [sizeLine_eq]; omega)
/-- a tuple's two places are stored under two names -/
theorem r_un2 {x y : Str} {px py pos : Pos} {k : Nat} {a : Addr} {v v' : Value} {Q : Unit → Shared → Prop} (S : St b env wc m cm own h) (hh : A.handled = none) (ht : h.IsTuple a #[v, v']) (hx : env.kindOf x = some .local) (hy : env.kindOf y = some .local)
    (q : ∀ h' t', St b env wc (upd (upd m x v) y v') cm own h' → Q () ⟨h', g, d, t', os⟩) (hp : (env.scope.kind == .class || (env.scope.kind == .module && env.locals != env.globals)) = false := by rfl) :
    wpAny (model prog w) A (assign (.Tuple [.Name x px, .Name y py] k pos) env (.ref a)) Q E ⟨h, g, d, t, os⟩ := by
  refine wpAny_assign_Tuple hh ht rfl rfl fun h' he => ?_
  have S' : St b env wc m cm own h' := S.off (S.out (size_none h)) (by cases e : b.get? h.objs.size with | none => rfl | some o => exact absurd (Heap.lt_size (S.keep _ _ e)) (Nat.lt_irrefl _)) he
  show wpAny _ A (do holding [v'] (assign (.Name x px) env v); assignInOrder [assign (.Name y py) env] [v']) _ _ _
  refine wpAny_bind (wpAny_holding (r_as S' hx (fun h₁ t₁ S => ?_) hp))
  show wpAny _ A (do holding [] (assign (.Name y py) env v'); assignInOrder [] []) _ _ _
  exact wpAny_bind (wpAny_holding (r_as S hy (fun h₁ t₁ S => wpAny_pure (q _ _ S)) hp))

theorem list_kp {h h' : Heap} {a : Addr} {vs : Array Value} (x : h.IsList a vs) (k : Kp h h') : h'.IsList a vs := let ⟨o, ho, r⟩ := x; ⟨o, k _ _ ho, r⟩
theorem tup_kp {h h' : Heap} {a : Addr} {vs : Array Value} (x : h.IsTuple a vs) (k : Kp h h') : h'.IsTuple a vs := let ⟨o, ho, r⟩ := x; ⟨o, k _ _ ho, r⟩
def ClOk (cells : List (Str × Addr)) : List (Str × Addr) → Prop
  | [] => True
  | p :: r => cells.lookup p.1 = some p.2 ∧ ClOk cells r
theorem ClOk.all {cells : List (Str × Addr)} : ∀ {cl : List (Str × Addr)}, ClOk cells cl → ∀ n c, cl.lookup n = some c → cells.lookup n = some c
  | p :: r, ⟨h1, h2⟩, n, c, e => by
    rw [List.lookup_cons] at e
    cases hb : n == p.1 with
    | true => rw [hb] at e; cases e; rw [eq_of_beq hb]; exact h1
    | false => rw [hb] at e; exact h2.all n c e

def chF (one two : Str) : Int :=
  if one.length = two.length then (((List.range one.length).countP fun (k : Nat) => Txt.item one (k : Int) != Txt.item two (k : Int) : Nat) : Int)
  else if one.length < two.length then (two.length : Int) - one.length + (if Txt.contains two one then 0 else 1)
  else (one.length : Int) - two.length + (if Txt.contains one two then 0 else 1)

set_option maxHeartbeats 2000000 in
theorem changes_ok {one two : Str} {u1 u2 : Tok} (U : Up w mg mb h) (hr : A.depth + 20 < recursionLimit) (hh : A.handled = none) (h1 : one.length ≤ 100) (h2 : two.length ≤ 100)
    (k : ∀ h' t' u, Kp h h' → R (.ok (.ret (.int (chF one two) u))) ⟨h', g, d, t', os⟩) :
    codeAny (model prog w) A (.call (.ref 120) ⟨[.str one u1, .str two u2], []⟩) R ⟨h, g, d, t, os⟩ := by
  refine call_ofC (binds := [(Str.ofString "one", .str one u1), (Str.ofString "two", .str two u2)]) U (by first | assumption | exact Nat.le_trans (by assumption) (by decide) | exact Nat.lt_of_lt_of_le (by assumption) (by decide) | exact Int.natCast_nonneg _ | exact Int.ofNat_lt.mpr (lt4 (by assumption)) | exact dep (by assumption) (by decide) | omega) rfl rfl rfl rfl rfl rfl ?_ (by decide) fun h₁ t₁ S => ?_
  · intro n x hx
    simp only [List.mem_cons, List.not_mem_nil, or_false] at hx
    rcases hx with rfl | rfl <;> exact .inr ⟨rfl, rfl⟩
  refine wpAny_execs_cons (wpAny_If (wpAny_isTrue_Compare1 (r_b1 U S rfl rfl Boot.len (r_nmc S rfl rfl rfl (r_lenS (by first | assumption | exact Nat.le_trans (by assumption) (by decide) | exact Nat.lt_of_lt_of_le (by assumption) (by decide) | exact Int.natCast_nonneg _ | exact Int.ofNat_lt.mpr (lt4 (by assumption)) | exact dep (by assumption) (by decide) | omega) fun u t => r_b1 U S rfl rfl Boot.len (r_nmc S rfl rfl rfl (r_lenS (by first | assumption | exact Nat.le_trans (by assumption) (by decide) | exact Nat.lt_of_lt_of_le (by assumption) (by decide) | exact Int.natCast_nonneg _ | exact Int.ofNat_lt.mpr (lt4 (by assumption)) | exact dep (by assumption) (by decide) | omega) fun u t => eq_int (wpAny_truthy_bool ?_))))))))
  by_cases hl : one.length = two.length
  · rw [if_pos (by rw [hl]; exact beq_self_eq_true _)]
    refine wpAny_execs_cons (wpAny_Return_some (r_b1 U S rfl rfl Boot.len (r_lc rfl rfl rfl (r_t1 U S rfl rfl Boot.range (r_b1 U S rfl rfl Boot.len (r_nmc S rfl rfl rfl (r_lenS (by first | assumption | exact Nat.le_trans (by assumption) (by decide) | exact Nat.lt_of_lt_of_le (by assumption) (by decide) | exact Int.natCast_nonneg _ | exact Int.ofNat_lt.mpr (lt4 (by assumption)) | exact dep (by assumption) (by decide) | omega) fun u t => r_range1 S rfl (by first | assumption | exact Nat.le_trans (by assumption) (by decide) | exact Nat.lt_of_lt_of_le (by assumption) (by decide) | exact Int.natCast_nonneg _ | exact Int.ofNat_lt.mpr (lt4 (by assumption)) | exact dep (by assumption) (by decide) | omega) fun I h₁ t₁ S hI => ?_)))))))
    refine compW (Walks.range (by exact hh) I 0 1 one.length) (fun a ha => (List.mem_singleton.mp ha) ▸ rangeI hI) (fun i h q => rangeI q) S hI (ClOk.all ⟨rfl, rfl, trivial⟩) rfl rfl rfl (by rw [sizeLine_eq]; omega)
      (fun _ i _ ys => ys.length = (List.range i).countP fun (k : Nat) => Txt.item one (k : Int) != Txt.item two (k : Int)) (fun _ _ _ => rfl) ?_ ?_
    · rintro i v bc C D b₁ m₁ ys h₁ t₁ oI E' Q' Z' hi ⟨tk, rfl⟩ kb Sb kb₁ hJ hx S hQ hZ
      have ei : (0 : Int) + (i : Int) * 1 = i := ei0 _
      rw [ei] at hx
      refine wpAny_tests_one (wpAny_isTrue_Compare1 (Subscript_ (r_nmc S rfl rfl rfl (r_nm S rfl hx (r_subSn hi (k100 h1) fun u t => Subscript_ (r_nmc S rfl rfl rfl (r_nm S rfl hx (r_subSn (hl ▸ hi) (k100 h2) fun u t => ne_str (wpAny_truthy_bool ?_)))))))))
      have ec : (List.range (i + 1)).countP (fun (k : Nat) => Txt.item one (k : Int) != Txt.item two (k : Int)) = (List.range i).countP (fun (k : Nat) => Txt.item one (k : Int) != Txt.item two (k : Int)) + if (Txt.item one (i : Int) != Txt.item two (i : Int)) = true then 1 else 0 := by
        rw [List.range_succ, List.countP_append, List.countP_singleton]
      by_cases hb : (Txt.item one (i : Int) != Txt.item two (i : Int)) = true
      · rw [if_pos hb]
        refine r_nm S rfl hx (hQ _ _ _ _ _ (Kp.refl _) S ?_)
        rw [ec, if_pos hb, ← hJ, List.length_append]; rfl
      · rw [if_neg hb]
        refine (hZ _ _ _ _ (Kp.refl _) S ?_)
        rw [ec, if_neg hb, ← hJ]; rfl
    · intro bc b₁ b' C D ys h' t' hJ kb kb' hn hD hL S
      refine post_none S fun h' S => ?_
      have hy : ys.length ≤ 1000 := by
        have : ys.length ≤ one.length := by rw [hJ]; exact Nat.le_trans List.countP_le_length (by simp)
        omega
      refine r_lenL (list_kp hL.isList S.keep) hy fun u t => ?_
      have := k h' t u (kb'.trans S.keep)
      rw [chF, if_pos hl] at this
      rw [hJ]; exact this
  · rw [if_neg (by intro q; exact hl (by have := eq_of_beq q; omega))]
    refine wpAny_execs_nil ?_
    refine wpAny_execs_cons (Assign_Tuple (wpAny_IfExp (wpAny_isTrue_Compare1 (r_b1 U S rfl rfl Boot.len (r_nmc S rfl rfl rfl (r_lenS (by first | assumption | exact Nat.le_trans (by assumption) (by decide) | exact Nat.lt_of_lt_of_le (by assumption) (by decide) | exact Int.natCast_nonneg _ | exact Int.ofNat_lt.mpr (lt4 (by assumption)) | exact dep (by assumption) (by decide) | omega) fun u t => r_b1 U S rfl rfl Boot.len (r_nmc S rfl rfl rfl (r_lenS (by first | assumption | exact Nat.le_trans (by assumption) (by decide) | exact Nat.lt_of_lt_of_le (by assumption) (by decide) | exact Int.natCast_nonneg _ | exact Int.ofNat_lt.mpr (lt4 (by assumption)) | exact dep (by assumption) (by decide) | omega) fun u t => lt_int (wpAny_truthy_bool ?_)))))))))
    by_cases hlt : one.length < two.length
    · rw [if_pos (by simpa using hlt)]
      refine r_tuple2 (r_nmc S rfl rfl rfl (r_nmc S rfl rfl rfl (r_newT S (by simp) fun a b' h' kb S ht _ => r_un2 S hh ⟨_, S.keep _ _ ht, rfl, _, rfl⟩ rfl rfl fun h' t' S => ?_)))
      have U := U.kp kb
      refine wpAny_execs_cons (wpAny_Return_some (wpAny_BinOp (wpAny_BinOp (r_b1 U S rfl rfl Boot.len (r_nm S rfl rfl (r_lenS (by first | assumption | exact Nat.le_trans (by assumption) (by decide) | exact Nat.lt_of_lt_of_le (by assumption) (by decide) | exact Int.natCast_nonneg _ | exact Int.ofNat_lt.mpr (lt4 (by assumption)) | exact dep (by assumption) (by decide) | omega) fun u t => r_b1 U S rfl rfl Boot.len (r_nm S rfl rfl (r_lenS (by first | assumption | exact Nat.le_trans (by assumption) (by decide) | exact Nat.lt_of_lt_of_le (by assumption) (by decide) | exact Int.natCast_nonneg _ | exact Int.ofNat_lt.mpr (lt4 (by assumption)) | exact dep (by assumption) (by decide) | omega) fun u t => r_sub fun u t => wpAny_IfExp (wpAny_isTrue_Compare1 (r_nm S rfl rfl (r_nm S rfl rfl (SB.contains (wpAny_truthy_bool ?_)))))))))))))
      rw [chF, if_neg hl, if_pos hlt] at k
      split
      · rename_i hc; rw [if_pos hc] at k
        exact r_int fun u t => r_add fun u t => k _ _ _ (kb.trans S.keep)
      · rename_i hc; rw [if_neg hc] at k
        exact r_int fun u t => r_add fun u t => k _ _ _ (kb.trans S.keep)
    · rw [if_neg (by simpa using hlt)]
      refine r_tuple2 (r_nmc S rfl rfl rfl (r_nmc S rfl rfl rfl (r_newT S (by simp) fun a b' h' kb S ht _ => r_un2 S hh ⟨_, S.keep _ _ ht, rfl, _, rfl⟩ rfl rfl fun h' t' S => ?_)))
      have U := U.kp kb
      refine wpAny_execs_cons (wpAny_Return_some (wpAny_BinOp (wpAny_BinOp (r_b1 U S rfl rfl Boot.len (r_nm S rfl rfl (r_lenS (by first | assumption | exact Nat.le_trans (by assumption) (by decide) | exact Nat.lt_of_lt_of_le (by assumption) (by decide) | exact Int.natCast_nonneg _ | exact Int.ofNat_lt.mpr (lt4 (by assumption)) | exact dep (by assumption) (by decide) | omega) fun u t => r_b1 U S rfl rfl Boot.len (r_nm S rfl rfl (r_lenS (by first | assumption | exact Nat.le_trans (by assumption) (by decide) | exact Nat.lt_of_lt_of_le (by assumption) (by decide) | exact Int.natCast_nonneg _ | exact Int.ofNat_lt.mpr (lt4 (by assumption)) | exact dep (by assumption) (by decide) | omega) fun u t => r_sub fun u t => wpAny_IfExp (wpAny_isTrue_Compare1 (r_nm S rfl rfl (r_nm S rfl rfl (SB.contains (wpAny_truthy_bool ?_)))))))))))))
      rw [chF, if_neg hl, if_neg hlt] at k
      split
      · rename_i hc; rw [if_pos hc] at k
        exact r_int fun u t => r_add fun u t => k _ _ _ (kb.trans S.keep)
      · rename_i hc; rw [if_neg hc] at k
        exact r_int fun u t => r_add fun u t => k _ _ _ (kb.trans S.keep)
end Mine

open PySem PySem.W PyProof.Rows PySem.Calls
set_option Elab.async false
set_option maxRecDepth 100000
namespace Mine
variable {prog : Program} {w : World} {A : Around} {E : Value → Shared → Prop} {mg mb : Str → Option Value}
variable {b h : Heap} {env : Env} {wc : List (Str × Addr)} {m cm : Str → Option Value} {own : Own} {g : Array GenState} {d : Drawn} {t : Nat} {os : OsState}
variable {R : Result → Shared → Prop}

/-- the library's rules in frames and ledgers, used on the state: the base is the empty heap, the ledger all objects but the locals -/
def noHeap : Heap := {}
theorem noHeap_get (a : Addr) : noHeap.get? a = none := by simp [noHeap, Heap.get?]
def allNews (h : Heap) (L : Addr) : List (Addr × Obj) := (List.range h.objs.size).filterMap fun a => if a = L then none else (h.get? a).map fun o => (a, o)
theorem mem_allNews {L a : Addr} {o : Obj} (e : h.get? a = some o) (ha : a ≠ L) : (a, o) ∈ allNews h L :=
  List.mem_filterMap.mpr ⟨a, List.mem_range.mpr (Heap.lt_size e), by rw [if_neg ha, e]; rfl⟩
theorem allNews_news (L : Addr) : News noHeap L h (allNews h L) := by
  intro p hp
  obtain ⟨a, ha, e⟩ := List.mem_filterMap.mp hp
  split at e
  · cases e
  · rename_i hne
    obtain ⟨o, ho, rfl⟩ := Option.map_eq_some_iff.mp e
    exact ⟨ho, hne, noHeap_get _⟩
theorem St.fr (S : St b env wc m cm own h) : Fr noHeap env.locals h m := ⟨S.ns, fun _ _ e => (by rw [noHeap_get] at e; cases e), Nat.zero_le _⟩
theorem St.back {h' : Heap} {m' : Str → Option Value} {extra : List (Addr × Obj)} (S : St b env wc m cm own h) (F : Fr noHeap env.locals h' m') (N : News noHeap env.locals h' (extra ++ allNews h env.locals)) : St b env wc m' cm own h' ∧ Heap.ExtBut env.locals h h' := by
  have k : Heap.ExtBut env.locals h h' := fun a o ha e => (N (a, o) (List.mem_append_right _ (mem_allNews e ha))).1
  exact ⟨S.setL F.ns k, k⟩

theorem St.thaw {a : Addr} {o : Obj} {P : Obj → Prop} (S : St b env wc m cm own h) (hc : env.cells = []) (ho : b.get? a = some o) (hP : P o) : St (hideAll b [a]) env wc m cm ((a, P) :: own) h := by
  have hn : a ∉ env.locals :: (wc.map (·.2) ++ own.map (·.1)) := fun q => by rw [S.nb a q] at ho; cases ho
  refine ⟨fun x o e => S.keep x o (of_hideAll _ e), S.ns, fun n c e => (by rw [hc] at e; cases e), S.wx, fun p hp => ?_, ?_, fun x hx => ?_⟩
  · rcases List.mem_cons.mp hp with rfl | hp
    · exact ⟨o, S.keep _ _ ho, hP⟩
    · exact S.ow p hp
  · have nd := S.nd
    rw [List.nodup_cons, List.nodup_append] at nd ⊢
    rw [List.map_cons, List.nodup_cons]
    refine ⟨fun q => ?_, nd.2.1, ⟨fun q => hn (.tail _ (List.mem_append_right _ q)), nd.2.2.1⟩, fun x hx y hy => ?_⟩
    · rcases List.mem_append.mp q with q | q
      · exact nd.1 (List.mem_append_left _ q)
      · rcases List.mem_cons.mp q with q | q
        · exact hn (q ▸ List.mem_cons_self ..)
        · exact nd.1 (List.mem_append_right _ q)
    · rcases List.mem_cons.mp hy with rfl | hy
      · exact fun q => hn (by rw [← q]; exact .tail _ (List.mem_append_left _ hx))
      · exact nd.2.2.2 x hx y hy
  · have hid : b.get? x = none → (hideAll b [a]).get? x = none := fun e => by
      cases q : (hideAll b [a]).get? x with
      | none => rfl
      | some o => rw [of_hideAll _ q] at e; cases e
    rcases List.mem_cons.mp hx with rfl | hx
    · exact hid (S.nb _ (List.mem_cons_self ..))
    · rcases List.mem_append.mp hx with hx | hx
      · exact hid (S.nb _ (.tail _ (List.mem_append_left _ hx)))
      · rcases List.mem_cons.mp hx with rfl | hx
        · exact hideAll_none _ (List.mem_cons_self ..)
        · exact hid (S.nb _ (.tail _ (List.mem_append_right _ hx)))

/-- one own object and the locals are changed -/
theorem St.two {h' : Heap} {m' : Str → Option Value} {i : Nat} {a : Addr} {P P' : Obj → Prop} {o' : Obj} (S : St b env wc m cm own h) (hi : own[i]? = some (a, P)) (hx : ∀ x o, x ≠ a → x ≠ env.locals → h.get? x = some o → h'.get? x = some o)
    (hn : h'.Ns env.locals m') (ho : h'.get? a = some o') (hP : P' o') : St b env wc m' cm (own.set i (a, P')) h' := by
  obtain ⟨oa, hoa, hPa⟩ := S.at hi
  obtain ⟨oL, es, ep, hL, hd, hk, hf⟩ := hn
  have hm : a ∈ env.locals :: (wc.map (·.2) ++ own.map (·.1)) := St.mem hi
  have nd := S.nd
  rw [List.nodup_cons, List.nodup_append] at nd
  have ha : a ∈ own.map (·.1) := List.mem_map.mpr ⟨_, List.mem_of_getElem? hi, rfl⟩
  obtain ⟨hl, hx'⟩ := List.getElem?_eq_some_iff.mp hi
  have em : (own.set i (a, P')).map (·.1) = own.map (·.1) := by
    rw [List.map_set]
    apply List.ext_getElem?
    intro j
    rw [List.getElem?_set]
    split
    · rename_i q; subst q
      rw [if_pos (by simpa using hl), List.getElem?_map, hi]; rfl
    · rfl
  have hbL := S.nb _ (List.mem_cons_self ..)
  refine ⟨fun x o e => hx x o (fun q => by rw [q, S.nb a hm] at e; cases e) (fun q => by rw [q, hbL] at e; cases e) (S.keep x o e), ⟨oL, es, ep, hL, hd, hk, hf⟩, fun n c e => ⟨?_, (S.cell n c e).2⟩, fun x hw => ?_, fun p hp => ?_, by rw [em]; exact S.nd, by rw [em]; exact S.nb⟩
  · obtain ⟨⟨o, ho, hd⟩, hw⟩ := S.cell n c e
    refine ⟨o, hx c o (fun q => ?_) (fun q => ?_) ho, hd⟩
    · subst q
      rcases hw with hw | ⟨o', hw⟩
      · exact nd.2.2.2 _ (lookup_mem hw) _ ha rfl
      · rw [S.nb _ hm] at hw; cases hw
    · rcases hw with hw | ⟨o', hw⟩
      · exact nd.1 (q ▸ List.mem_append_left _ (lookup_mem hw))
      · rw [q, hbL] at hw; cases hw
  · obtain ⟨o, ho⟩ := S.wx x hw
    exact ⟨o, hx x o (fun q => nd.2.2.2 _ hw _ ha q) (fun q => nd.1 (q ▸ List.mem_append_left _ hw)) ho⟩
  · obtain ⟨j, hj, he⟩ := List.mem_iff_getElem.mp hp
    rw [List.getElem_set] at he
    split at he
    · subst he; exact ⟨o', ho, hP⟩
    · rename_i hne
      have hj' : j < own.length := by simpa using hj
      have hpm : p ∈ own := he ▸ List.getElem_mem hj'
      obtain ⟨o, ho, hP⟩ := S.ow p hpm
      refine ⟨o, hx p.1 o (fun q => hne ?_) (fun q => nd.1 (q ▸ List.mem_append_right _ (List.mem_map_of_mem hpm))) ho, hP⟩
      have h1 : (own.map (·.1))[i]? = some a := by rw [List.getElem?_map, hi]; rfl
      have h2 : (own.map (·.1))[j]? = some a := by rw [List.getElem?_map, List.getElem?_eq_getElem hj', he, ← q]; rfl
      exact ((List.getElem?_inj (by simpa using hl) nd.2.2.1).mp (h1.trans h2.symm))
theorem inst_at {x dx C : Addr} {od : Obj} (hx : h.get? x = some (instObj C dx)) (hd : h.get? dx = some od) : InstAt h x (instObj C dx) C (some od) := ⟨hx, rfl, rfl, hd⟩

/-- an object's own attribute is read -/
theorem r_attr {x dx : Addr} {es : List DictEntry} {n : Nat} {name : Str} {v : Value} {expr : Bool} {attr : Option Value} {Q : Value → Shared → Prop} (U : Up w mg mb h) (hx : h.get? x = some (instObj 90 dx)) (hd : h.get? dx = some (dictOf es n)) (hv : getL name es = some (some v))
    (ha : findIn (KK w) (.ref 90) name = some attr) (hn : noGet (KK w) attr = true) (hh : handedIn v = true) (q : ∀ t', Q v ⟨h, g, d, t', os⟩)
    (hg : plainGet (KK w) 90 name = true := by rfl) (hD : hasDictIn (KK w) 90 = true := by rfl) : wpAny (model prog w) A (getAttr (.ref x) name expr) Q E ⟨h, g, d, t, os⟩ :=
  get_value U.kin (inst_at hx hd) (plainGet_of hg).1 (findObj_own hD ha hn (by rw [lookIn_dict]; exact hv)) hh (q _)
/-- a method of the class is bound -/
theorem r_meth {x dx f : Addr} {es : List DictEntry} {n : Nat} {name : Str} {pl : Sem Bool} {Q : Value × List Value → Shared → Prop} (U : Up w mg mb h) (hx : h.get? x = some (instObj 90 dx)) (hd : h.get? dx = some (dictOf es n)) (hv : getL name es = some none)
    (hf : findIn (KK w) (.ref 90) name = some (some (.ref f))) (ht : typeIn (KK w) (.ref f) = some (.type "function")) (q : Q (.ref f, [.ref x]) ⟨h, g, d, t, os⟩)
    (hg : plainGet (KK w) 90 name = true := by rfl) : wpAny (model prog w) A (getMethod (.ref x) name pl) Q E ⟨h, g, d, t, os⟩ :=
  method_fn U.kin (inst_at hx hd) (plainGet_of hg).1 (plainGet_of hg).2 hf ht (by show (lookIn name (dictOf es n)).map _ = _; rw [lookIn_dict, hv]; rfl) q
/-- an object's own attribute is stored -/
theorem r_setattr {i : Nat} {x dx : Addr} {name : Str} {v : Value} {es : List DictEntry} {n : Nat} {es' : Tok → List DictEntry} {n' : Nat} {Q : Unit → Shared → Prop} (U : Up w mg mb h) (S : St b env wc m cm own h) (hx : h.get? x = some (instObj 90 dx)) (hi : own[i]? = some (dx, fun o => o = dictOf es n))
    (ht : takerIn (KK w) 90 name = some none) (hl : (getL name es).isSome = true) (he : ∀ u, Obj.putName name (PyData.keyHash w.params name) (.str name u) v (dictOf es n) = dictOf (es' u) n') (hz : ∀ u, (es' u).length ≤ 1000)
    (q : ∀ u h' t', St b env wc m cm (own.set i (dx, fun o => o = dictOf (es' u) n')) h' → Q () ⟨h', g, d, t', os⟩)
    (hs : findIn (KK w) (.ref 90) "__setattr__" = some (some (.builtin "object.__setattr__")) := by rfl) (hp : plainOver (KK w) 90 = true := by rfl) (hD : hasDictIn (KK w) 90 = true := by rfl) :
    wpAny (model prog w) A (setAttr (.ref x) name v) Q E ⟨h, g, d, t, os⟩ := by
  obtain ⟨od, hd, rfl⟩ := S.at hi
  have hdL : dx ≠ env.locals := fun e => by
    have nd := S.nd
    rw [List.nodup_cons] at nd
    exact nd.1 (e ▸ List.mem_append_right _ (List.mem_map.mpr ⟨_, List.mem_of_getElem? hi, rfl⟩))
  refine set_plain U.kin (inst_at hx hd) hs ?_
  have N : News noHeap env.locals h ([] ++ (dx, dictOf es n) :: (allNews h env.locals).filter fun p => p.1 != dx) := by
    intro p hp
    rcases List.mem_cons.mp hp with rfl | hp
    · exact ⟨hd, hdL, noHeap_get _⟩
    · exact allNews_news _ p (List.mem_filter.mp hp).1
  refine osa_dict (s := ⟨h, g, d, t + 1, os⟩) S.fr N U.kin (inst_at hx hd) rfl hp ht hD (by rw [lookIn_dict]; exact hl) (fun p hp => (nomatch hp)) (fun p hp => by simpa using (List.mem_filter.mp hp).2) (he (t + 1)) rfl (hz _) fun h' F' N' => ?_
  have ho' : h'.get? dx = some (dictOf (es' (t + 1)) n') := (N' (dx, _) (List.mem_cons_self ..)).1
  have S1 : ∀ a o, a ≠ dx → a ≠ env.locals → h.get? a = some o → h'.get? a = some o := fun a o h1 h2 e => (N' (a, o) (.tail _ (List.mem_filter.mpr ⟨mem_allNews e h2, by simpa using h1⟩))).1
  exact q (t + 1) h' _ (S.two hi S1 F'.ns ho' rfl)

/-- [..] * i -/
theorem r_mulL {a : Addr} {vs : List Value} {i : Int} {u : Tok} {n0 : Nat} {Q : Value → Shared → Prop} (S : St b env wc m cm own h) (hl : h.get? a = some { cls := .type "list", data := .seq vs.toArray n0 }) (h0 : vs.length = 1) (hi : 0 ≤ i) (hi' : i ≤ 1000)
    (q : ∀ a' h', St b env wc m cm own h' → h'.get? a' = some { cls := .type "list", data := .seq (List.replicate i.toNat (vs.headD .none)).toArray } → h.get? a' = none → Q (.ref a') ⟨h', g, d, t, os⟩) : wpAny (model prog w) A (binaryOp .Mult (.ref a) (.int i u)) Q E ⟨h, g, d, t, os⟩ := by
  obtain ⟨x, rfl⟩ := List.length_eq_one_iff.mp h0
  refine mul_list (s := ⟨h, g, d, t, os⟩) S.fr (allNews_news env.locals) hl (by first | assumption | exact Nat.le_trans (by assumption) (by decide) | exact Nat.lt_of_lt_of_le (by assumption) (by decide) | exact Int.natCast_nonneg _ | exact Int.ofNat_lt.mpr (lt4 (by assumption)) | exact dep (by assumption) (by decide) | omega) (by first | assumption | exact Nat.le_trans (by assumption) (by decide) | exact Nat.lt_of_lt_of_le (by assumption) (by decide) | exact Int.natCast_nonneg _ | exact Int.ofNat_lt.mpr (lt4 (by assumption)) | exact dep (by assumption) (by decide) | omega) (by simp; omega) fun h' F' N' => ?_
  obtain ⟨S', k⟩ := S.back (extra := [_]) F' N'
  have e : (List.foldl (fun x1 x2 => x1 ++ x2) #[] (List.replicate (if ([x] : List Value).toArray.isEmpty = true then 0 else i.toNat) [x].toArray)) = (List.replicate i.toNat x).toArray := by
    have : ([x] : List Value).toArray.isEmpty = false := rfl
    rw [this, if_neg (by decide)]
    have key : ∀ (n : Nat) (acc : List Value), List.foldl (fun x1 x2 => x1 ++ x2) acc.toArray (List.replicate n [x].toArray) = (acc ++ List.replicate n x).toArray := by
      intro n
      induction n with
      | zero => intro acc; simp
      | succ n ih => intro acc; rw [List.replicate_succ, List.foldl_cons, List.append_toArray, ih, List.replicate_succ]; simp
    simpa using key i.toNat []
  have ho := (N' (h.objs.size, _) (List.mem_cons_self ..)).1
  rw [e] at ho
  exact q _ h' S' ho (size_none h)
/-- xs + ys -/
theorem r_addL {a a2 : Addr} {vs ws : List Value} {n1 n2 : Nat} {Q : Value → Shared → Prop} (hl : h.get? a = some { cls := .type "list", data := .seq vs.toArray n1 }) (hl2 : h.get? a2 = some { cls := .type "list", data := .seq ws.toArray n2 }) (hz : vs.length + ws.length ≤ 1000)
    (q : Q (.ref h.objs.size) ⟨h.push { cls := .type "list", data := .seq (vs ++ ws).toArray }, g, d, t, os⟩) : wpAny (model prog w) A (binaryOp .Add (.ref a) (.ref a2)) Q E ⟨h, g, d, t, os⟩ :=
  PySem.P.add_list (s := ⟨h, g, d, t, os⟩) hl hl2 (by rw [List.append_toArray]; exact q) (by rw [sizeLine_eq]; simp; omega)
/-- x, y = (.., ..), the stores exchanged -/
theorem r_swap2 {x y : Str} {a : Addr} {v v' : Value} {Q : Unit → Shared → Prop} (S : St b env wc m cm own h) (hh : A.handled = none) (ht : h.IsTuple a #[v, v']) (hx : env.kindOf x = some .local) (hy : env.kindOf y = some .local)
    (q : ∀ h' t', St b env wc (upd (upd m y v') x v) cm own h' → Q () ⟨h', g, d, t', os⟩) (hp : (env.scope.kind == .class || (env.scope.kind == .module && env.locals != env.globals)) = false := by rfl) :
    wpAny (model prog w) A (unpackItems (.ref a) [x, y].length none) (fun items s₂ => wpAny (model prog w) A (assignInOrder ([x, y].reverse.map fun n => bindName env n) items.reverse) Q E s₂) E ⟨h, g, d, t, os⟩ := by
  show wpAny (model prog w) A (unpackItems (.ref a) (#[v, v'] : Array Value).size none) _ E _
  refine wpAny_unpackItems_tuple (s := ⟨h, g, d, t, os⟩) hh ht fun h' he => ?_
  have S' : St b env wc m cm own h' := S.off (S.out (size_none h)) (by cases e : b.get? h.objs.size with | none => rfl | some o => exact absurd (Heap.lt_size (S.keep _ _ e)) (Nat.lt_irrefl _)) he
  show wpAny _ A (do holding [v] (bindName env y v'); assignInOrder [bindName env x] [v]) _ _ _
  refine wpAny_bind (wpAny_holding (wpAny_bindName (r_st S' hy (fun h₁ t₁ S => ?_) hp)))
  show wpAny _ A (do holding [] (bindName env x v); assignInOrder [] []) _ _ _
  exact wpAny_bind (wpAny_holding (wpAny_bindName (r_st S hx (fun h₁ t₁ S => wpAny_pure (q _ _ S)) hp)))
/-- a list is made: the frame's own -/
theorem r_newL {vs : List Value} {Q : Value → Shared → Prop} (S : St b env wc m cm own h) (hl : vs.length ≤ 1000) (q : ∀ a h', St b env wc m cm ((a, isL vs) :: own) h' → h.get? a = none → Q (.ref a) ⟨h', g, d, t, os⟩) :
    wpAny (model prog w) A (newList vs) Q E ⟨h, g, d, t, os⟩ :=
  wpAny_newList (q _ _ (S.pushO rfl ⟨_, rfl⟩) (size_none h)) (by rw [sizeLine_eq]; omega)
theorem r_list0 {pos : Pos} {s : Shared} {Q : Value → Shared → Prop} (q : wpAny (model prog w) A (newList []) Q E s) : wpAny (model prog w) A (eval (.List [] pos) env) Q E s := List_ (r_arg0 q)
theorem r_list1 {e : Expr} {pos : Pos} {s : Shared} {Q : Value → Shared → Prop} (q : wpAny (model prog w) A (eval e env) (fun v s₁ => wpAny (model prog w) A (newList [v]) Q E s₁) E s) (he : starEach [e] env = [(false, eval e env)] := by rfl) :
    wpAny (model prog w) A (eval (.List [e] pos) env) Q E s := List_ (r_arg1 q he)
theorem r_subL {value slice : Expr} {a : Addr} {vs : Array Value} {i : Int} {v : Tok} {x : Value} {Q : Value → Shared → Prop} (hl : h.IsList a vs) (h0 : 0 ≤ i) (h1 : i < 1000) (hx : vs[i.toNat]? = some x) (q : Q x ⟨h, g, d, t, os⟩)
    (hs : subscripted slice false (.ref a) (.int i v) = operate [.ref a, .int i v] (getItem (.ref a) (.int i v)) := by with_unfolding_all rfl) : wpAny (model prog w) A (subscriptTail value slice (.ref a) (.int i v)) Q E ⟨h, g, d, t, os⟩ :=
  tail_any (s := ⟨h, g, d, t, os⟩) hl.typeIs PySem.F.slot_list_getitem.lookup (wpAny_getItem_list hl h0 (by first | assumption | exact Nat.le_trans (by assumption) (by decide) | exact Nat.lt_of_lt_of_le (by assumption) (by decide) | exact Int.natCast_nonneg _ | exact Int.ofNat_lt.mpr (lt4 (by assumption)) | exact dep (by assumption) (by decide) | omega) hx q) hs
theorem r_setL {j : Nat} {a : Addr} {vs : List Value} {i : Int} {u : Tok} {x : Value} {Q : Unit → Shared → Prop} (S : St b env wc m cm own h) (hj : own[j]? = some (a, isL vs)) (h0 : 0 ≤ i) (h1 : i < vs.length) (h2 : vs.length ≤ 1000)
    (q : ∀ h', St b env wc m cm (own.set j (a, isL (vs.set i.toNat x))) h' → Q () ⟨h', g, d, t, os⟩) : wpAny (model prog w) A (setItem (.ref a) (.int i u) x) Q E ⟨h, g, d, t, os⟩ := by
  obtain ⟨o, ho, n, rfl⟩ := S.at hj
  refine ki_setAt (s := ⟨h, g, d, t, os⟩) (n := n) ho h0 (by first | assumption | exact Nat.le_trans (by assumption) (by decide) | exact Nat.lt_of_lt_of_le (by assumption) (by decide) | exact Int.natCast_nonneg _ | exact Int.ofNat_lt.mpr (lt4 (by assumption)) | exact dep (by assumption) (by decide) | omega) (by rw [List.size_toArray]; omega) ?_
  have hu : (h.update a (Obj.mapSeq (·.setIfInBounds i.toNat x))).get? a = some { cls := .type "list", data := .seq (vs.set i.toNat x).toArray n } := by
    have e : Obj.mapSeq (·.setIfInBounds i.toNat x) ({ cls := .type "list", data := .seq vs.toArray n } : Obj) = { cls := .type "list", data := .seq (vs.set i.toNat x).toArray n } := by
      simp [Obj.mapSeq]
    rw [← e]
    exact Heap.get?_update_self _ ho (by rw [e]; rfl)
  exact q _ (S.setO hj (Heap.SameBut.update ..).extBut hu ⟨n, rfl⟩)
theorem r_geI {i j : Int} {u v : Tok} {Q : Value → Shared → Prop} {s : Shared} (q : Q (.bool (decide (j ≤ i))) s) : wpAny (model prog w) A (compareOp .GtE (.int i u) (.int j v)) Q E s := PyProof.Rows.ge_int q
theorem r_leI {i j : Int} {u v : Tok} {Q : Value → Shared → Prop} {s : Shared} (q : Q (.bool (decide (i ≤ j))) s) : wpAny (model prog w) A (compareOp .LtE (.int i u) (.int j v)) Q E s := PyProof.Rows.le_int q
def Mid (_S : St b env wc m cm own h) (g : Array GenState) (d : Drawn) (os : OsState) (J : Heap → (Str → Option Value) → (Str → Option Value) → Own → Prop) (f : Flow) (s' : Shared) : Prop :=
  f = .next ∧ ∃ b' m' cm' own' h' t', s' = ⟨h', g, d, t', os⟩ ∧ Kp b b' ∧ St b' env wc m' cm' own' h' ∧ J b' m' cm' own'
/-- what holds between two statements -/
theorem cut {st : Stmt} {rest : List Stmt} {Q : Flow → Shared → Prop} (S : St b env wc m cm own h) (J : Heap → (Str → Option Value) → (Str → Option Value) → Own → Prop) (h1 : ∀ Q' : Flow → Shared → Prop, (∀ b' m' cm' own' h' t', Kp b b' → St b' env wc m' cm' own' h' → J b' m' cm' own' → Q' .next ⟨h', g, d, t', os⟩) → wpAny (model prog w) A (exec st env) Q' E ⟨h, g, d, t, os⟩)
    (h2 : ∀ b' m' cm' own' h' t', Kp b b' → J b' m' cm' own' → St b' env wc m' cm' own' h' → wpAny (model prog w) A (execs rest env) Q E ⟨h', g, d, t', os⟩) : wpAny (model prog w) A (execs (st :: rest) env) Q E ⟨h, g, d, t, os⟩ :=
  wpAny_execs_cons (wpAny_mono (h1 (Mid S g d os J) fun b' m' cm' own' h' t' k S j => ⟨rfl, b', m', cm', own', h', t', rfl, k, S, j⟩) (fun f s' ⟨hf, b', m', cm', own', h', t', e, kb, S', hJ⟩ => by subst hf e; exact h2 b' m' cm' own' h' t' kb hJ S') fun _ _ e => e)
theorem St.swap {p q : Addr × (Obj → Prop)} (S : St b env wc m cm (p :: q :: own) h) : St b env wc m cm (q :: p :: own) h := by
  have hp : ((q :: p :: own).map (·.1)).Perm ((p :: q :: own).map (·.1)) := (List.Perm.swap p q own).map _
  have hp' : (env.locals :: (wc.map (·.2) ++ (q :: p :: own).map (·.1))).Perm (env.locals :: (wc.map (·.2) ++ (p :: q :: own).map (·.1))) := (List.Perm.append_left _ hp).cons _
  refine ⟨S.keep, S.ns, S.cell, S.wx, fun r hr => S.ow r ((List.Perm.swap p q own).mem_iff.mp hr), hp'.nodup_iff.mpr S.nd, fun a ha => S.nb a (hp'.mem_iff.mp ha)⟩
/-- tuple(xs) -/
theorem r_tupL {a : Addr} {vs : List Value} {Q : Value → Shared → Prop} (S : St b env wc m cm own h) (hl : h.IsList a vs.toArray) (hz : vs.length ≤ 1000)
    (q : ∀ a' b' h', Kp b b' → St b' env wc m cm own h' → b'.get? a' = some { cls := .type "tuple", data := .seq vs.toArray } → h.get? a' = none → Q (.ref a') ⟨h', g, d, t, os⟩) : wpAny (model prog w) A (call (.type "tuple") [.ref a]) Q E ⟨h, g, d, t, os⟩ := by
  refine call_tuple_list (s := ⟨h, g, d, t, os⟩) hl (fun h' k => ?_) (by rw [List.size_toArray, sizeLine_eq]; omega)
  have S' := S.kp k
  obtain ⟨b', kb, S'', hb⟩ := S'.pushB (o := { cls := .type "tuple", data := .seq vs.toArray }) rfl
  refine q _ b' _ kb S'' hb ?_
  cases e : h.get? h'.objs.size with
  | none => rfl
  | some o => exact absurd (Heap.lt_size (k _ _ e)) (Nat.lt_irrefl _)
end Mine

open PySem PySem.W PyProof.Rows PySem.Calls
set_option Elab.async false
set_option maxRecDepth 100000
namespace Mine
variable {prog : Program} {w : World} {A : Around} {E : Value → Shared → Prop} {mg mb : Str → Option Value}
variable {b h : Heap} {env : Env} {wc : List (Str × Addr)} {m cm : Str → Option Value} {own : Own} {g : Array GenState} {d : Drawn} {t : Nat} {os : OsState}
variable {R : Result → Shared → Prop}

def wsGrow (st : List Int × Int × Int) : List Int := if (st.1.length : Int) ≤ st.2.1 then st.1 ++ List.replicate (st.2.1 - st.1.length + 1).toNat 0 else st.1
def wsStep (st : List Int × Int × Int) (c : Nat) : List Int × Int × Int :=
  if c = 32 then (st.1, st.2.1 + 1, st.2.2) else ((wsGrow st).set st.2.1.toNat ((wsGrow st).getD st.2.1.toNat 0 + 1), 0, st.2.2 + 1)
def wsF (cs : List Nat) : List Int × Int × Int := cs.foldl wsStep ([], 0, 0)
theorem wsF_snoc (cs : List Nat) (c : Nat) : wsF (cs ++ [c]) = wsStep (wsF cs) c := by simp [wsF, List.foldl_append]
theorem wsF_bound : ∀ (cs : List Nat), 0 ≤ (wsF cs).2.1 ∧ (wsF cs).2.1 ≤ cs.length ∧ (wsF cs).1.length ≤ cs.length + 1 := by
  intro cs
  rw [← List.reverse_reverse cs]
  induction cs.reverse with
  | nil => decide
  | cons c l ih =>
    rw [List.reverse_cons, wsF_snoc]
    simp only [List.length_append, List.length_reverse, List.length_cons, List.length_nil] at ih ⊢
    unfold wsStep
    split
    · dsimp only; omega
    · dsimp only
      refine ⟨by omega, by omega, ?_⟩
      rw [List.length_set]
      unfold wsGrow
      split
      · rw [List.length_append, List.length_replicate]; omega
      · omega

def wsD (P : Params) (u0 u1 u2 u3 u4 : Tok) (raw nv ntv norm sv : Value) : List DictEntry :=
  [⟨PyData.keyHash P "raw", .str "raw" u0, raw⟩, ⟨PyData.keyHash P "n", .str "n" u1, nv⟩, ⟨PyData.keyHash P "nt", .str "nt" u2, ntv⟩, ⟨PyData.keyHash P "norm", .str "norm" u3, norm⟩, ⟨PyData.keyHash P "is_simple", .str "is_simple" u4, sv⟩]
/-- a Whitespace made of lead, all of whose parts lie in h and not in h₀ -/
structure WsQ where
  (dx nrm cnt : Addr)
  (u0 u1 u2 u3 u4 t0 t2 tb : Tok)
  (nv sv : Value)
  (vs : List Value)
structure WsOk (P : Params) (h₀ h : Heap) (x : Addr) (lead : Str) (q : WsQ) : Prop where
  hx : h.get? x = some (instObj 90 q.dx)
  hdx : h.get? q.dx = some (dictOf (wsD P q.u0 q.u1 q.u2 q.u3 q.u4 (.str lead q.t0) q.nv (.int (wsF lead.cps.toList).2.2 q.t2) (.ref q.nrm) q.sv) 5)
  hnrm : h.get? q.nrm = some { cls := .type "tuple", data := .seq #[.ref q.cnt, .int (wsF lead.cps.toList).2.1 q.tb] }
  hcnt : h.get? q.cnt = some { cls := .type "tuple", data := .seq (List.toArray q.vs) }
  hvs : IntsAre q.vs (wsF lead.cps.toList).1
  n1 : h₀.get? x = none
  n2 : h₀.get? q.dx = none
  n3 : h₀.get? q.nrm = none
  n4 : h₀.get? q.cnt = none
def WsAt (P : Params) (h₀ h : Heap) (x : Addr) (lead : Str) : Prop := ∃ q : WsQ, WsOk P h₀ h x lead q

theorem sgl_eq (c k : Nat) (s : Str) (hs : s.cps = #[k]) : ((⟨#[c]⟩ : Str) == s) = decide (c = k) := by
  obtain ⟨a⟩ := s
  dsimp only at hs
  subst hs
  by_cases h : c = k
  · subst h; simp
  · simp [h]
theorem ints_set : ∀ {vs : List Value} {ns : List Int} (i : Nat) (n : Int) (u : Tok), IntsAre vs ns → IntsAre (vs.set i (.int n u)) (ns.set i n)
  | _, _, _, _, _, .nil => .nil
  | _, _, 0, n, u, .cons _ _ h => .cons n u h
  | _, _, i + 1, n, u, .cons a t h => .cons a t (ints_set i n u h)
theorem ints_get : ∀ {vs : List Value} {ns : List Int} (i : Nat), IntsAre vs ns → i < ns.length → ∃ u, vs[i]? = some (.int (ns.getD i 0) u)
  | _, _, _, .nil, h => by simp at h
  | _, _, 0, .cons n t _, _ => ⟨t, rfl⟩
  | _, _, i + 1, .cons _ _ h, hl => by
    obtain ⟨u, hu⟩ := ints_get i h (by simpa using hl)
    exact ⟨u, by simpa using hu⟩
theorem ints_rep (n : Nat) (i : Int) (u : Tok) : IntsAre (List.replicate n (.int i u)) (List.replicate n i) := by
  induction n with
  | zero => exact .nil
  | succ n ih => exact .cons i u ih

structure IniOk (P : Params) (x dx : Addr) (lead : Str) (u0 u1 : Tok) (i : Nat) (m : Str → Option Value) (own : Own) (cnt : Addr) (vs : List Value) (ub : Tok) (n : Int) (un unt us ut : Tok) : Prop where
  ho : own = [(cnt, isL vs), (dx, fun o => o = dictOf [⟨PyData.keyHash P "raw", .str "raw" u0, .str lead u1⟩] 1)]
  hvs : IntsAre vs (wsF (lead.cps.toList.take i)).1
  mc : m (Str.ofString "count") = some (.ref cnt)
  mb : m (Str.ofString "b") = some (.int (wsF (lead.cps.toList.take i)).2.1 ub)
  mn : m (Str.ofString "n") = some (.int n un)
  mnt : m (Str.ofString "nt") = some (.int (wsF (lead.cps.toList.take i)).2.2 unt)
  mS : m (Str.ofString "S") = some (.str (Str.ofString " ") us)
  mT : m (Str.ofString "T") = some (.str (Str.ofString "\t") ut)
  mself : m (Str.ofString "self") = some (.ref x)
def InitJ (P : Params) (x dx : Addr) (lead : Str) (u0 u1 : Tok) (i : Nat) (m : Str → Option Value) (own : Own) : Prop := ∃ cnt vs ub n un unt us ut, IniOk P x dx lead u0 u1 i m own cnt vs ub n un unt us ut

set_option maxHeartbeats 4000000 in
theorem init_ok {lead : Str} {u1 : Tok} (U : Up w mg mb h) (hr : A.depth + 20 < recursionLimit) (hh : A.handled = none) (ha : lead.cps.all (· < 128) = true) (hl : lead.length ≤ 50) (hc : ∀ c ∈ lead.cps.toList, c = 32 ∨ c = 9)
    (k : ∀ x h' t', Kp h h' → WsAt w.params h h' x lead → R (.ok (.ret (.ref x))) ⟨h', g, d, t', os⟩) :
    codeAny (model prog w) A (.call (.ref 90) ⟨[.str lead u1], []⟩) R ⟨h, g, d, t, os⟩ := by
  refine make_core (makes_of U.kin rfl) (looks_findIn U.kin (r := some (.ref 45)) rfl) (fun self => bind_fn U.kin self rfl) (.inl rfl) ?_
  have kp : Kp h ((h.push emptyDict).push (instObj 90 h.objs.size)) := (Kp.push _ _).trans (Kp.push _ _)
  have hx : ((h.push emptyDict).push (instObj 90 h.objs.size)).get? (h.objs.size + 1) = some (instObj 90 h.objs.size) := by
    have e : ((h.push emptyDict).push (instObj 90 h.objs.size)).get? (h.push emptyDict).objs.size = some (instObj 90 h.objs.size) := Heap.get?_push_size _ rfl
    rwa [Heap.size_push] at e
  have hdx : ((h.push emptyDict).push (instObj 90 h.objs.size)).get? h.objs.size = some (dictOf [] 0) := Heap.get?_push_of_some _ (Heap.get?_push_size _ rfl)
  generalize hH : (h.push emptyDict).push (instObj 90 h.objs.size) = H at kp hx hdx ⊢
  have UH := U.kp kp
  have hnx : h.get? (h.objs.size + 1) = none := Heap.get?_none_of_le (Nat.le_succ _)
  have hnd : h.get? h.objs.size = none := size_none h
  generalize hX : h.objs.size + 1 = x at hx hnx ⊢
  generalize hDX : h.objs.size = dx at hx hdx hnd hX
  have hne : x ≠ dx := by rw [← hX]; exact Nat.succ_ne_self _
  refine call_of (binds := [(Str.ofString "self", .ref x), (Str.ofString "ws", .str lead u1)]) UH (by rw [depth_under_make]; omega) rfl rfl rfl rfl rfl rfl rfl rfl fun h₁ t₁ S => ?_
  have S := S.thaw rfl hdx (P := fun o => o = dictOf [] 0) rfl
  have kb : Kp h (hideAll H [dx]) := fun a o e => hideAll_get _ (kp _ _ e) (fun q => by rw [List.mem_singleton.mp q, hnd] at e; cases e)
  have bx : (hideAll H [dx]).get? x = some (instObj 90 dx) := hideAll_get _ hx (by simpa using hne)
  generalize hideAll H [dx] = b at S kb bx
  have U := U.kp kb
  refine wpAny_execs_cons (plainObj_wpAny_Assign_Attribute (r_nm S rfl rfl (r_nm S rfl rfl (r_setattr (i := 0) (U.kp S.keep) S (S.keep _ _ bx) rfl rfl rfl (es' := fun u => [⟨PyData.keyHash w.params "raw", .str "raw" u, .str lead u1⟩]) (fun u => rfl) (fun u => Nat.le_of_ble_eq_true rfl) fun u0 h₁ t₁ S => ?_))))
  have cv : ∀ {name : Str} {v : Value} {h : Heap} {t : Nat} {Q : Value → Shared → Prop} {E : Value → Shared → Prop} {A : Around}, Kp b h → findCls (KK w) (.ref 90) (.type "type") name = some (.val v) → handedIn v = true → (∀ t', Q v ⟨h, g, d, t', os⟩) → wpAny (model prog w) A (getAttr (.ref 90) name true) Q E ⟨h, g, d, t, os⟩ :=
    fun kh e hv q => cls_value ((U.kp kh).kin) rfl e hv (q _)
  refine wpAny_execs_cons (Assign_Tuple_swapped (names := [Str.ofString "S", Str.ofString "T"]) (r_tuple2 (Attribute_name (r_nmg U S rfl rfl (cv S.keep rfl rfl fun t' => Attribute_name (r_nmg U S rfl rfl (cv S.keep rfl rfl fun t' => r_newT S (by simp) fun a b' h' kb' S ht _ => r_swap2 S hh ⟨_, S.keep _ _ ht, rfl, _, rfl⟩ rfl rfl fun h' t' S => ?_)))))))
  have U := U.kp kb'
  have bx := kb' _ _ bx
  have kb := kb.trans kb'
  refine wpAny_execs_cons (wpAny_Assign_Name (r_list0 (r_newL S (by simp) fun cnt h₁ S hn => r_st S rfl fun h₁ t₁ S => ?_)))
  refine wpAny_execs_cons (wpAny_Assign_three (r_int fun u t => r_as S rfl fun h₁ t₁ S => r_as S rfl fun h₁ t₁ S => r_as S rfl fun h₁ t₁ S => ?_))
  obtain ⟨od, hod, rfl⟩ := S.at (i := 1) rfl
  refine wpAny_execs_cons (wpAny_For (Attribute_name (r_nm S rfl rfl (r_attr (U.kp S.keep) (S.keep _ _ bx) hod rfl rfl rfl rfl fun t' => r_iterS S ha fun I h₁ S hI => ?_))))
  refine loopW (Walks.strAscii (by exact hh) I lead _) (fun a ha q => absurd (List.mem_singleton.mp ha) q) (fun i h q => let ⟨o, ho, _⟩ := q; ⟨o, ho⟩) S hI
    (fun i _ m _ own => InitJ w.params x dx lead u0 u1 i m own) ⟨_, [], _, _, _, _, _, _, rfl, .nil, rfl, rfl, rfl, rfl, rfl, rfl, rfl⟩ ?_ ?_
  · rintro i v b₁ m₁ cm₁ own₁ h₁ t₁ oI Q' E' hi ⟨c, u, hci, rfl⟩ kb₁ hJJ S hQ
    obtain ⟨cnt, vs, ub, n, un, unt, us, ut, rfl, hvs, mc, mb_, mn, mnt, mS, mT, mself⟩ := hJJ
    have U := U.kp kb₁
    have bx := kb₁ _ _ bx
    have hci' : lead.cps.toList[i]? = some c := by simpa using hci
    have hi' : i < 50 := by
      have : i < lead.length := hi
      omega
    have bnd := wsF_bound (lead.cps.toList.take i)
    have tl : (lead.cps.toList.take i).length ≤ i := by rw [List.length_take]; omega
    have snoc := take_snoc hci'
    refine r_as S rfl fun h₁ t₁ S => ?_
    refine wpAny_execs_cons (wpAny_If (wpAny_isTrue_Compare1 (r_nm S rfl rfl (r_nm S rfl (by exact mS) (eq_str (wpAny_truthy_bool ?_))))))
    rw [sgl_eq c 32 _ (by decide +kernel)]
    by_cases c32 : c = 32
    · rw [if_pos (by simpa using c32)]
      refine wpAny_execs_cons (wpAny_Assign_Name (wpAny_BinOp (r_nm S rfl (by exact mn) (r_int fun u t => r_add fun u t => r_st S rfl fun h₁ t₁ S => ?_))))
      refine wpAny_execs_cons (wpAny_Assign_Name (wpAny_BinOp (r_nm S rfl (by exact mb_) (r_int fun u t => r_add fun ub' t => r_st S rfl fun h₁ t₁ S => ?_))))
      refine wpAny_execs_nil ?_
      refine wpAny_execs_nil ?_
      refine (hQ _ _ _ _ _ _ (Kp.refl _) S ⟨cnt, vs, ub', _, _, unt, us, ut, rfl, ?_, mc, ?_, rfl, ?_, mS, mT, mself⟩)
      · rw [snoc, wsF_snoc, wsStep, if_pos c32]; exact hvs
      · rw [snoc, wsF_snoc, wsStep, if_pos c32]; rfl
      · rw [snoc, wsF_snoc, wsStep, if_pos c32]; exact mnt
    · have c9 : c = 9 := (hc c (List.mem_of_getElem? hci')).resolve_left c32
      rw [if_neg (by simpa using c32)]
      refine wpAny_execs_cons (wpAny_If (wpAny_isTrue_Compare1 (r_nm S rfl rfl (r_nm S rfl (by exact mT) (eq_str (wpAny_truthy_bool ?_))))))
      rw [sgl_eq c 9 _ (by decide +kernel), if_pos (by simpa using c9)]
      refine wpAny_execs_cons (wpAny_Assign_Name (wpAny_BinOp (r_nm S rfl (by exact mn) (r_int fun u t => r_add fun u t => r_st S rfl fun h₁ t₁ S => ?_))))
      refine wpAny_execs_cons (wpAny_Assign_Name (wpAny_BinOp (r_nm S rfl (by exact mnt) (r_int fun u t => r_add fun unt' t => r_st S rfl fun h₁ t₁ S => ?_))))
      -- the growing of count
      have gl := hvs.length
      refine cut S (fun b' m' cm' own' => b' = b₁ ∧ ∃ cnt' vs' n un, own' = [(I, fun o => o = oI), (cnt', isL vs'), (dx, fun o => o = dictOf [⟨PyData.keyHash w.params "raw", .str "raw" u0, .str lead u1⟩] 1)] ∧
        IntsAre vs' (wsGrow (wsF (lead.cps.toList.take i))) ∧ m' (Str.ofString "count") = some (.ref cnt') ∧ m' (Str.ofString "b") = some (.int (wsF (lead.cps.toList.take i)).2.1 ub) ∧ m' (Str.ofString "n") = some (.int n un) ∧
        m' (Str.ofString "nt") = some (.int ((wsF (lead.cps.toList.take i)).2.2 + 1) unt') ∧ m' (Str.ofString "S") = some (.str (Str.ofString " ") us) ∧ m' (Str.ofString "T") = some (.str (Str.ofString "\t") ut) ∧ m' (Str.ofString "self") = some (.ref x)) ?_ ?_
      · intro Q' hC
        obtain ⟨oc, hoc, hPc⟩ := S.at (i := 1) rfl
        refine wpAny_If (wpAny_isTrue_Compare1 (r_nm S rfl (by exact mb_) (r_b1 U S rfl rfl Boot.len (r_nm S rfl (by exact mc) (r_lenL (isL_list hoc hPc) (by first | assumption | exact Nat.le_trans (by assumption) (by decide) | exact Nat.lt_of_lt_of_le (by assumption) (by decide) | exact Int.natCast_nonneg _ | exact Int.ofNat_lt.mpr (lt4 (by assumption)) | exact dep (by assumption) (by decide) | omega) fun u t => r_geI (wpAny_truthy_bool ?_))))))
        rw [gl]
        by_cases hge : ((wsF (lead.cps.toList.take i)).1.length : Int) ≤ (wsF (lead.cps.toList.take i)).2.1
        · rw [if_pos (by simpa using hge)]
          refine wpAny_execs_cons (wpAny_Assign_Name (wpAny_BinOp (r_nm S rfl (by exact mc) (wpAny_BinOp (r_list1 (r_int fun uz t => r_newL S (by simp) fun z h₁ S hnz => ?_))))))
          obtain ⟨oc, hoc, hPc⟩ := S.at (i := 2) rfl
          refine wpAny_BinOp (wpAny_BinOp (r_nm S rfl (by exact mb_) (r_b1 U S rfl rfl Boot.len (r_nm S rfl (by exact mc) (r_lenL (isL_list hoc hPc) (by first | assumption | exact Nat.le_trans (by assumption) (by decide) | exact Nat.lt_of_lt_of_le (by assumption) (by decide) | exact Int.natCast_nonneg _ | exact Int.ofNat_lt.mpr (lt4 (by assumption)) | exact dep (by assumption) (by decide) | omega) fun u t => r_sub fun u t => r_int fun u t => r_add fun u t => ?_)))))
          rw [gl]
          obtain ⟨oz, hoz, nz, rfl⟩ := S.at (i := 0) rfl
          refine r_mulL S hoz rfl (by first | assumption | exact Nat.le_trans (by assumption) (by decide) | exact Nat.lt_of_lt_of_le (by assumption) (by decide) | exact Int.natCast_nonneg _ | exact Int.ofNat_lt.mpr (lt4 (by assumption)) | exact dep (by assumption) (by decide) | omega) (by first | assumption | exact Nat.le_trans (by assumption) (by decide) | exact Nat.lt_of_lt_of_le (by assumption) (by decide) | exact Int.natCast_nonneg _ | exact Int.ofNat_lt.mpr (lt4 (by assumption)) | exact dep (by assumption) (by decide) | omega) fun z2 h₁ S hz2 hn2 => ?_
          obtain ⟨oc, hoc, nc, rfl⟩ := S.at (i := 2) rfl
          refine r_addL hoc hz2 (by rw [List.length_replicate]; omega) ?_
          refine r_st (S.pushO (P := isL (vs ++ List.replicate ((wsF (lead.cps.toList.take i)).2.1 - (wsF (lead.cps.toList.take i)).1.length + 1).toNat (.int 0 uz))) rfl ⟨_, rfl⟩) rfl fun h₁ t₁ S => ?_
          refine wpAny_execs_nil ?_
          have S := (S.sub (.cons_cons _ (.cons _ (.cons_cons _ (.cons _ (.cons_cons _ .slnil)))))).swap
          refine (hC b₁ _ _ _ _ _ (Kp.refl _) S ⟨rfl, _, _, _, _, rfl, ?_, rfl, mb_, rfl, rfl, mS, mT, mself⟩)
          rw [wsGrow, if_pos hge]; exact hvs.append (ints_rep _ _ _)
        · rw [if_neg (by simpa using hge)]
          refine wpAny_execs_nil (hC b₁ _ _ _ _ _ (Kp.refl _) S ⟨rfl, cnt, vs, _, _, rfl, ?_, mc, mb_, rfl, rfl, mS, mT, mself⟩)
          rw [wsGrow, if_neg hge]; exact hvs
      · rintro b' m' cm' own' h' t' - ⟨rfl, cnt', vs', n, un, rfl, hvs', mc, mb_, mn, mnt, mS, mT, mself⟩ S
        have gl' := hvs'.length
        have gw : (wsF (lead.cps.toList.take i)).2.1.toNat < (wsGrow (wsF (lead.cps.toList.take i))).length ∧ (wsGrow (wsF (lead.cps.toList.take i))).length ≤ 200 := by
          unfold wsGrow
          split
          · rw [List.length_append, List.length_replicate]; omega
          · omega
        obtain ⟨oc, hoc, hPc⟩ := S.at (i := 1) rfl
        obtain ⟨uv, huv⟩ := ints_get _ hvs' gw.1
        refine wpAny_execs_cons (wpAny_Assign_Subscript (wpAny_BinOp (Subscript_ (r_nm S rfl (by exact mc) (r_nm S rfl (by exact mb_) (r_subL (isL_list hoc hPc) (by first | assumption | exact Nat.le_trans (by assumption) (by decide) | exact Nat.lt_of_lt_of_le (by assumption) (by decide) | exact Int.natCast_nonneg _ | exact Int.ofNat_lt.mpr (lt4 (by assumption)) | exact dep (by assumption) (by decide) | omega) (by first | assumption | exact Nat.le_trans (by assumption) (by decide) | exact Nat.lt_of_lt_of_le (by assumption) (by decide) | exact Int.natCast_nonneg _ | exact Int.ofNat_lt.mpr (lt4 (by assumption)) | exact dep (by assumption) (by decide) | omega) (by simpa using huv) (r_int fun u t => r_add fun uv' t => r_nm S rfl (by exact mc) (r_nm S rfl (by exact mb_) (r_setL (j := 1) S rfl (by first | assumption | exact Nat.le_trans (by assumption) (by decide) | exact Nat.lt_of_lt_of_le (by assumption) (by decide) | exact Int.natCast_nonneg _ | exact Int.ofNat_lt.mpr (lt4 (by assumption)) | exact dep (by assumption) (by decide) | omega) (by first | assumption | exact Nat.le_trans (by assumption) (by decide) | exact Nat.lt_of_lt_of_le (by assumption) (by decide) | exact Int.natCast_nonneg _ | exact Int.ofNat_lt.mpr (lt4 (by assumption)) | exact dep (by assumption) (by decide) | omega) (by first | assumption | exact Nat.le_trans (by assumption) (by decide) | exact Nat.lt_of_lt_of_le (by assumption) (by decide) | exact Int.natCast_nonneg _ | exact Int.ofNat_lt.mpr (lt4 (by assumption)) | exact dep (by assumption) (by decide) | omega) fun h₁ S => ?_)))))))))
        refine wpAny_execs_cons (wpAny_Assign_Name (r_int fun ub' t => r_st S rfl fun h₁ t₁ S => ?_))
        refine wpAny_execs_nil ?_
        refine wpAny_execs_nil ?_
        refine wpAny_execs_nil ?_
        refine (hQ _ _ _ _ _ _ (Kp.refl _) S ⟨cnt', _, ub', _, _, unt', us, ut, rfl, ?_, mc, ?_, mn, ?_, mS, mT, mself⟩)
        · rw [snoc, wsF_snoc, wsStep, if_neg c32]; exact ints_set _ _ _ hvs'
        · rw [snoc, wsF_snoc, wsStep, if_neg c32]; rfl
        · rw [snoc, wsF_snoc, wsStep, if_neg c32]; exact mnt
  · rintro b₁ m₁ cm₁ own₁ h₁ t₁ kb₁ ⟨cnt, vs, ub, n, un, unt, us, ut, rfl, hvs, mc, mb_, mn, mnt, mS, mT, mself⟩ S
    have e : lead.cps.toList.take lead.cps.size = lead.cps.toList := by rw [← Array.length_toList, List.take_length]
    rw [e] at hvs mb_ mnt
    have gl := hvs.length
    have bnd := wsF_bound lead.cps.toList
    have tl : lead.cps.toList.length ≤ 50 := by rw [Array.length_toList]; exact hl
    have U := U.kp kb₁
    have bx := kb₁ _ _ bx
    have kb := kb.trans kb₁
    refine wpAny_execs_cons (plainObj_wpAny_Assign_Attribute (r_nm S rfl (by exact mn) (r_nm S rfl (by exact mself) (r_setattr (i := 1) (U.kp S.keep) S (S.keep _ _ bx) rfl rfl rfl
      (es' := fun u => [⟨PyData.keyHash w.params "raw", .str "raw" u0, .str lead u1⟩, ⟨PyData.keyHash w.params "n", .str "n" u, .int n un⟩]) (fun u => rfl) (fun u => Nat.le_of_ble_eq_true rfl) fun u2 h₁ t₁ S => ?_))))
    refine wpAny_execs_cons (plainObj_wpAny_Assign_Attribute (r_nm S rfl (by exact mnt) (r_nm S rfl (by exact mself) (r_setattr (i := 1) (U.kp S.keep) S (S.keep _ _ bx) rfl rfl rfl
      (es' := fun u => [⟨PyData.keyHash w.params "raw", .str "raw" u0, .str lead u1⟩, ⟨PyData.keyHash w.params "n", .str "n" u2, .int n un⟩, ⟨PyData.keyHash w.params "nt", .str "nt" u, .int (wsF lead.cps.toList).2.2 unt⟩]) (fun u => rfl) (fun u => Nat.le_of_ble_eq_true rfl) fun u3 h₁ t₁ S => ?_))))
    obtain ⟨oc, hoc, hPc⟩ := S.at (i := 0) rfl
    refine wpAny_execs_cons (plainObj_wpAny_Assign_Attribute (r_tuple2 (r_t1 U S rfl rfl Boot.tuple (r_nm S rfl (by exact mc) (r_tupL S (isL_list hoc hPc) (by first | assumption | exact Nat.le_trans (by assumption) (by decide) | exact Nat.lt_of_lt_of_le (by assumption) (by decide) | exact Int.natCast_nonneg _ | exact Int.ofNat_lt.mpr (lt4 (by assumption)) | exact dep (by assumption) (by decide) | omega) fun ct b2 h₁ kb2 S2 hct hnct => r_nm S2 rfl (by exact mb_) (r_newT S2 (by simp) fun nrm b3 h₂ kb3 S3 hnrm hnn => r_nm S3 rfl (by exact mself) ?_))))))
    have nct := none_of_kp (kb.trans S.keep) hnct
    have nnrm := none_of_kp ((kb.trans kb2).trans S2.keep) hnn
    have U := (U.kp kb2).kp kb3
    have bx := kb3 _ _ (kb2 _ _ bx)
    have kb := (kb.trans kb2).trans kb3
    have hct := kb3 _ _ hct
    refine r_setattr (i := 1) (U.kp S3.keep) S3 (S3.keep _ _ bx) rfl rfl rfl
      (es' := fun u => [⟨PyData.keyHash w.params "raw", .str "raw" u0, .str lead u1⟩, ⟨PyData.keyHash w.params "n", .str "n" u2, .int n un⟩, ⟨PyData.keyHash w.params "nt", .str "nt" u3, .int (wsF lead.cps.toList).2.2 unt⟩, ⟨PyData.keyHash w.params "norm", .str "norm" u, .ref nrm⟩]) (fun u => rfl) (fun u => Nat.le_of_ble_eq_true rfl) fun u4 h₁ t₁ S => ?_
    obtain ⟨oc, hoc, hPc⟩ := S.at (i := 0) rfl
    refine wpAny_execs_cons (plainObj_wpAny_Assign_Attribute (wpAny_Compare1 (r_b1 U S rfl rfl Boot.len (r_nm S rfl (by exact mc) (r_lenL (isL_list hoc hPc) (by first | assumption | exact Nat.le_trans (by assumption) (by decide) | exact Nat.lt_of_lt_of_le (by assumption) (by decide) | exact Int.natCast_nonneg _ | exact Int.ofNat_lt.mpr (lt4 (by assumption)) | exact dep (by assumption) (by decide) | omega) fun u t => r_int fun u t => r_leI (r_nm S rfl (by exact mself) (r_setattr (i := 1) (U.kp S.keep) S (S.keep _ _ bx) rfl rfl rfl
      (es' := fun u => wsD w.params u0 u2 u3 u4 u (.str lead u1) (.int n un) (.int (wsF lead.cps.toList).2.2 unt) (.ref nrm) _) (fun u => rfl) (fun u => Nat.le_of_ble_eq_true rfl) fun u5 h₁ t₁ S => ?_)))))))
    refine wpAny_execs_nil ⟨rfl, k x _ _ (kb.trans S.keep) ?_⟩
    obtain ⟨od, hod, rfl⟩ := S.at (i := 1) rfl
    exact ⟨⟨dx, nrm, ct, u0, u2, u3, u4, u5, u1, unt, ub, _, _, vs⟩, S.keep _ _ bx, hod, S.keep _ _ hnrm, S.keep _ _ hct, hvs, hnx, hnd, nnrm, nct⟩
end Mine

open PySem PySem.W PyProof.Rows PySem.Calls
set_option Elab.async false
set_option maxRecDepth 100000
namespace Mine
variable {prog : Program} {w : World} {A : Around} {E : Value → Shared → Prop} {mg mb : Str → Option Value}
variable {b h : Heap} {env : Env} {wc : List (Str × Addr)} {m cm : Str → Option Value} {own : Own} {g : Array GenState} {d : Drawn} {t : Nat} {os : OsState}
variable {R : Result → Shared → Prop}

theorem r_max2 {i j : Int} {u v : Tok} {Q : Value → Shared → Prop} (hh : A.handled = none) (S : St b env wc m cm own h) (q : ∀ u h' t', St b env wc m cm own h' → Q (.int (max i j) u) ⟨h', g, d, t', os⟩) :
    wpAny (model prog w) A (call (.builtin "max") [.int i u, .int j v]) Q E ⟨h, g, d, t, os⟩ := by
  refine PySem.max_two_ints hh fun h' tk k => ?_
  by_cases hc : j > i
  · rw [if_pos hc]; have := q v h' tk (S.kp k); rwa [show max i j = j from by omega] at this
  · rw [if_neg hc]; have := q u h' tk (S.kp k); rwa [show max i j = i from by omega] at this
theorem mulOk {a c : Int} (h1 : -1000000 ≤ a) (h2 : a ≤ 1000000) : IntMulOk a c := .of_left (Nat.le_trans (intBits_le_64 (by first | assumption | exact Nat.le_trans (by assumption) (by decide) | exact Nat.lt_of_lt_of_le (by assumption) (by decide) | exact Int.natCast_nonneg _ | exact Int.ofNat_lt.mpr (lt4 (by assumption)) | exact dep (by assumption) (by decide) | omega) (by first | assumption | exact Nat.le_trans (by assumption) (by decide) | exact Nat.lt_of_lt_of_le (by assumption) (by decide) | exact Int.natCast_nonneg _ | exact Int.ofNat_lt.mpr (lt4 (by assumption)) | exact dep (by assumption) (by decide) | omega)) (by decide))
theorem r_mul {i j : Int} {u v : Tok} {Q : Value → Shared → Prop} (h1 : -1000000 ≤ i) (h2 : i ≤ 1000000) (q : ∀ u t', Q (.int (i * j) u) ⟨h, g, d, t', os⟩) : wpAny (model prog w) A (binaryOp .Mult (.int i u) (.int j v)) Q E ⟨h, g, d, t, os⟩ := PyProof.Rows.mul_int (q _ _) (mulOk h1 h2)
theorem r_fdiv {i j : Int} {u v : Tok} {Q : Value → Shared → Prop} (h1 : 1 ≤ j) (h2 : j ≤ 1000000) (q : ∀ u t', Q (.int (i.fdiv j) u) ⟨h, g, d, t', os⟩) : wpAny (model prog w) A (binaryOp .FloorDiv (.int i u) (.int j v)) Q E ⟨h, g, d, t, os⟩ :=
  PyProof.Rows.floordiv_int (by first | assumption | exact Nat.le_trans (by assumption) (by decide) | exact Nat.lt_of_lt_of_le (by assumption) (by decide) | exact Int.natCast_nonneg _ | exact Int.ofNat_lt.mpr (lt4 (by assumption)) | exact dep (by assumption) (by decide) | omega) (q _ _) (.inl (PyProof.noPylong_small (by first | assumption | exact Nat.le_trans (by assumption) (by decide) | exact Nat.lt_of_lt_of_le (by assumption) (by decide) | exact Int.natCast_nonneg _ | exact Int.ofNat_lt.mpr (lt4 (by assumption)) | exact dep (by assumption) (by decide) | omega)))
theorem r_lenT {a : Addr} {vs : List Value} {n : Nat} {Q : Value → Shared → Prop} (hl : h.get? a = some { cls := .type "tuple", data := .seq vs.toArray n }) (hx : vs.length ≤ 1000) (q : ∀ u t', Q (.int (vs.length : Int) u) ⟨h, g, d, t', os⟩) : wpAny (model prog w) A (call (.builtin "len") [.ref a]) Q E ⟨h, g, d, t, os⟩ :=
  P.len_tuple (n := n) hl (by rw [List.size_toArray]; omega) (by rw [List.size_toArray]; exact q _ _)
theorem r_subT {value slice : Expr} {a : Addr} {vs : List Value} {n : Nat} {i : Int} {v : Tok} {x : Value} {Q : Value → Shared → Prop} (hl : h.get? a = some { cls := .type "tuple", data := .seq vs.toArray n }) (h0 : 0 ≤ i) (h1 : i < 1000) (hx : vs[i.toNat]? = some x) (q : Q x ⟨h, g, d, t, os⟩)
    (hs : subscripted slice false (.ref a) (.int i v) = operate [.ref a, .int i v] (getItem (.ref a) (.int i v)) := by with_unfolding_all rfl) : wpAny (model prog w) A (subscriptTail value slice (.ref a) (.int i v)) Q E ⟨h, g, d, t, os⟩ := by
  obtain ⟨hl', _⟩ := List.getElem?_eq_some_iff.mp hx
  refine item_tupleT (s := ⟨h, g, d, t, os⟩) ⟨_, hl, rfl, n, rfl⟩ (by first | assumption | exact Nat.le_trans (by assumption) (by decide) | exact Nat.lt_of_lt_of_le (by assumption) (by decide) | exact Int.natCast_nonneg _ | exact Int.ofNat_lt.mpr (lt4 (by assumption)) | exact dep (by assumption) (by decide) | omega) (by first | assumption | exact Nat.le_trans (by assumption) (by decide) | exact Nat.lt_of_lt_of_le (by assumption) (by decide) | exact Int.natCast_nonneg _ | exact Int.ofNat_lt.mpr (lt4 (by assumption)) | exact dep (by assumption) (by decide) | omega) (j := i.toNat) ?_ hx q hs
  have e1 : (if i < 0 then i + (vs.length : Int) else i) = i := if_neg (by first | assumption | exact Nat.le_trans (by assumption) (by decide) | exact Nat.lt_of_lt_of_le (by assumption) (by decide) | exact Int.natCast_nonneg _ | exact Int.ofNat_lt.mpr (lt4 (by assumption)) | exact dep (by assumption) (by decide) | omega)
  have e2 : (decide (0 ≤ i) && decide (i < (vs.length : Int))) = true := by simp; omega
  simp only [seqIndex?, e1, e2, if_true]

theorem r_t2 {x : Str} {p pos : Pos} {e e' : Expr} {T : String} {Q : Value → Shared → Prop} (U : Up w mg mb b) (S : St b env wc m cm own h) (hx : env.kindOf x = some .globalImplicit) (hn : nsIn (KK w) mainGlobals x = some none) (hv : bootBuiltins x = some (.type T))
    (q : wpAny (model prog w) A (eval e env) (fun v s₁ => wpAny (model prog w) A (eval e' env) (fun v' s₂ => wpAny (model prog w) A (call (.type T) [v, v']) Q E s₂) E s₁) E ⟨h, g, d, t, os⟩) (he : starEach [e, e'] env = [(false, eval e env), (false, eval e' env)] := by rfl)
    (hk : env.scope.kind = .function := by rfl) (hg : env.globals = mainGlobals := by rfl) (hb : env.builtins = builtinsNs := by rfl) (hne : x ≠ ("__name__" : Str) := by decide) (hd : (x == ("__debug__" : Str)) = false := by rfl) :
    wpAny (model prog w) A (eval (.Call (.Name x p) [e, e'] [] pos) env) Q E ⟨h, g, d, t, os⟩ := by
  have he' : starEach [e'] env = [(false, eval e' env)] := by
    cases e <;> first | exact (List.cons.inj he).2 | (exfalso; cases he)
  refine wpAny_Call_NameR (r_nmb U S hx hn hv (PyProof.Rows.callWith_type1 (r_arg2 q he) (he.trans (by rw [he'])) (by rw [he']; rfl)) hk hg hb hne hd)

theorem longest_ok {h₀ : Heap} {x : Addr} {lead : Str} (U : Up w mg mb h) (hr : A.depth + 20 < recursionLimit) (hh : A.handled = none) (hl : lead.length ≤ 50) (W : WsAt w.params h₀ h x lead)
    (k : ∀ h' t' u, Kp h h' → R (.ok (.ret (.int (max (((wsF lead.cps.toList).1.length : Int) - 1) (wsF lead.cps.toList).2.1) u))) ⟨h', g, d, t', os⟩) :
    codeAny (model prog w) A (.call (.ref 52) ⟨[.ref x], []⟩) R ⟨h, g, d, t, os⟩ := by
  obtain ⟨⟨dx, nrm, cnt, u0, u1, u2, u3, u4, t0, t2, tb, nv, sv, vs⟩, hx, hdx, hnrm, hcnt, hvs, -, -, -, -⟩ := W
  dsimp only at hx hdx hnrm hcnt hvs
  have bnd := wsF_bound lead.cps.toList
  have tl : lead.cps.toList.length ≤ 50 := by rw [Array.length_toList]; exact hl
  have gl := hvs.length
  refine call_of (binds := [(Str.ofString "self", .ref x)]) U (by first | assumption | exact Nat.le_trans (by assumption) (by decide) | exact Nat.lt_of_lt_of_le (by assumption) (by decide) | exact Int.natCast_nonneg _ | exact Int.ofNat_lt.mpr (lt4 (by assumption)) | exact dep (by assumption) (by decide) | omega) rfl rfl rfl rfl rfl rfl rfl rfl fun h₁ t₁ S => ?_
  refine wpAny_execs_cons (Assign_Tuple (Attribute_name (r_nm S rfl rfl (r_attr (U.kp S.keep) (S.keep _ _ hx) (S.keep _ _ hdx) rfl rfl rfl rfl fun t' => r_un2 S hh ⟨_, S.keep _ _ hnrm, rfl, _, rfl⟩ rfl rfl fun h₁ t₁ S => ?_))))
  refine wpAny_execs_cons (wpAny_Return_some (r_b2 U S rfl rfl Boot.max (wpAny_BinOp (r_b1 U S rfl rfl Boot.len (r_nm S rfl rfl (r_lenT (S.keep _ _ hcnt) (by first | assumption | exact Nat.le_trans (by assumption) (by decide) | exact Nat.lt_of_lt_of_le (by assumption) (by decide) | exact Int.natCast_nonneg _ | exact Int.ofNat_lt.mpr (lt4 (by assumption)) | exact dep (by assumption) (by decide) | omega) fun u t => r_int fun u t => r_sub fun u t => r_nm S rfl rfl (r_max2 hh S fun u h' t' S => ?_)))))))
  rw [gl]
  exact k _ _ _ S.keep

def ilF (st : List Int × Int × Int) (ts : Int) : Int := st.2.1 + ts * ((List.range ((st.1.length : Int) - ts).toNat).foldl (fun (a : Int) (j : Nat) => a + (ts + (j : Int)).fdiv ts * st.1.getD (ts + (j : Int)).toNat 0) 0 + st.2.2)

set_option maxHeartbeats 2000000 in
theorem indent_ok {h₀ : Heap} {x : Addr} {lead : Str} {ts : Int} {ut : Tok} (U : Up w mg mb h) (hr : A.depth + 20 < recursionLimit) (hh : A.handled = none) (hl : lead.length ≤ 50) (W : WsAt w.params h₀ h x lead) (h1 : 1 ≤ ts) (h2 : ts ≤ 100)
    (k : ∀ h' t' u, Kp h h' → R (.ok (.ret (.int (ilF (wsF lead.cps.toList) ts) u))) ⟨h', g, d, t', os⟩) :
    codeAny (model prog w) A (.call (.ref 59) ⟨[.ref x, .int ts ut], []⟩) R ⟨h, g, d, t, os⟩ := by
  obtain ⟨⟨dx, nrm, cnt, u0, u1, u2, u3, u4, t0, t2, tb, nv, sv, vs⟩, hx, hdx, hnrm, hcnt, hvs, -, -, -, -⟩ := W
  dsimp only at hx hdx hnrm hcnt hvs
  have bnd := wsF_bound lead.cps.toList
  have tl : lead.cps.toList.length ≤ 50 := by rw [Array.length_toList]; exact hl
  have gl := hvs.length
  refine call_of (binds := [(Str.ofString "self", .ref x), (Str.ofString "tabsize", .int ts ut)]) U (by first | assumption | exact Nat.le_trans (by assumption) (by decide) | exact Nat.lt_of_lt_of_le (by assumption) (by decide) | exact Int.natCast_nonneg _ | exact Int.ofNat_lt.mpr (lt4 (by assumption)) | exact dep (by assumption) (by decide) | omega) rfl rfl rfl rfl rfl rfl rfl rfl fun h₁ t₁ S => ?_
  refine wpAny_execs_cons (Assign_Tuple (Attribute_name (r_nm S rfl rfl (r_attr (U.kp S.keep) (S.keep _ _ hx) (S.keep _ _ hdx) rfl rfl rfl rfl fun t' => r_un2 S hh ⟨_, S.keep _ _ hnrm, rfl, _, rfl⟩ rfl rfl fun h₁ t₁ S => ?_))))
  refine wpAny_execs_cons (wpAny_Assign_Name (r_int fun u t => r_st S rfl fun h₁ t₁ S => ?_))
  refine wpAny_execs_cons (wpAny_For (r_t2 U S rfl rfl Boot.range (r_nm S rfl rfl (r_b1 U S rfl rfl Boot.len (r_nm S rfl rfl (r_lenT (S.keep _ _ hcnt) (by first | assumption | exact Nat.le_trans (by assumption) (by decide) | exact Nat.lt_of_lt_of_le (by assumption) (by decide) | exact Int.natCast_nonneg _ | exact Int.ofNat_lt.mpr (lt4 (by assumption)) | exact dep (by assumption) (by decide) | omega) fun u t => ?_))))))
  rw [gl]
  refine r_range2 (n := (((wsF lead.cps.toList).1.length : Int) - ts).toNat) S rfl (by first | assumption | exact Nat.le_trans (by assumption) (by decide) | exact Nat.lt_of_lt_of_le (by assumption) (by decide) | exact Int.natCast_nonneg _ | exact Int.ofNat_lt.mpr (lt4 (by assumption)) | exact dep (by assumption) (by decide) | omega) (by first | assumption | exact Nat.le_trans (by assumption) (by decide) | exact Nat.lt_of_lt_of_le (by assumption) (by decide) | exact Int.natCast_nonneg _ | exact Int.ofNat_lt.mpr (lt4 (by assumption)) | exact dep (by assumption) (by decide) | omega) (by first | assumption | exact Nat.le_trans (by assumption) (by decide) | exact Nat.lt_of_lt_of_le (by assumption) (by decide) | exact Int.natCast_nonneg _ | exact Int.ofNat_lt.mpr (lt4 (by assumption)) | exact dep (by assumption) (by decide) | omega) (by first | assumption | exact Nat.le_trans (by assumption) (by decide) | exact Nat.lt_of_lt_of_le (by assumption) (by decide) | exact Int.natCast_nonneg _ | exact Int.ofNat_lt.mpr (lt4 (by assumption)) | exact dep (by assumption) (by decide) | omega) fun I h₁ t₁ S hI => ?_
  refine loopW (Walks.range (by exact hh) I ts 1 _) (fun a ha q => absurd (List.mem_singleton.mp ha) q) (fun i h q => rangeI q) S hI
    (fun i _ m _ own => own = [] ∧ (∃ u, m (Str.ofString "il") = some (.int ((List.range i).foldl (fun (a : Int) (j : Nat) => a + (ts + (j : Int)).fdiv ts * (wsF lead.cps.toList).1.getD (ts + (j : Int)).toNat 0) 0) u)) ∧ m (Str.ofString "count") = some (.ref cnt) ∧
      m (Str.ofString "trailing") = some (.int (wsF lead.cps.toList).2.1 tb) ∧ m (Str.ofString "self") = some (.ref x) ∧ m (Str.ofString "tabsize") = some (.int ts ut)) ⟨rfl, ⟨_, rfl⟩, rfl, rfl, rfl, rfl⟩ ?_ ?_
  · rintro i v b₁ m₁ cm₁ own₁ h₁ t₁ oI Q' E' hi ⟨tk, rfl⟩ kb hJJ S hQ
    obtain ⟨rfl, ⟨ui, mil⟩, mc, mt, mself, mts⟩ := hJJ
    have ei : ts + (i : Int) * 1 = ts + i := by omega
    rw [ei]
    obtain ⟨uv, huv⟩ := ints_get (ts + (i : Int)).toNat hvs (by first | assumption | exact Nat.le_trans (by assumption) (by decide) | exact Nat.lt_of_lt_of_le (by assumption) (by decide) | exact Int.natCast_nonneg _ | exact Int.ofNat_lt.mpr (lt4 (by assumption)) | exact dep (by assumption) (by decide) | omega)
    have hd0 : (ts + (i : Int)).fdiv ts = (ts + i) / ts := Int.fdiv_eq_ediv_of_nonneg _ (by first | assumption | exact Nat.le_trans (by assumption) (by decide) | exact Nat.lt_of_lt_of_le (by assumption) (by decide) | exact Int.natCast_nonneg _ | exact Int.ofNat_lt.mpr (lt4 (by assumption)) | exact dep (by assumption) (by decide) | omega)
    have hd1 : 0 ≤ (ts + (i : Int)) / ts := Int.ediv_nonneg (by first | assumption | exact Nat.le_trans (by assumption) (by decide) | exact Nat.lt_of_lt_of_le (by assumption) (by decide) | exact Int.natCast_nonneg _ | exact Int.ofNat_lt.mpr (lt4 (by assumption)) | exact dep (by assumption) (by decide) | omega) (by first | assumption | exact Nat.le_trans (by assumption) (by decide) | exact Nat.lt_of_lt_of_le (by assumption) (by decide) | exact Int.natCast_nonneg _ | exact Int.ofNat_lt.mpr (lt4 (by assumption)) | exact dep (by assumption) (by decide) | omega)
    have hd2 : (ts + (i : Int)) / ts ≤ ts + i := Int.ediv_le_self _ (by first | assumption | exact Nat.le_trans (by assumption) (by decide) | exact Nat.lt_of_lt_of_le (by assumption) (by decide) | exact Int.natCast_nonneg _ | exact Int.ofNat_lt.mpr (lt4 (by assumption)) | exact dep (by assumption) (by decide) | omega)
    refine r_as S rfl fun h₁ t₁ S => ?_
    refine wpAny_execs_cons (wpAny_Assign_Name (wpAny_BinOp (r_nm S rfl (by exact mil) (wpAny_BinOp (wpAny_BinOp (r_nm S rfl rfl (r_nm S rfl (by exact mts) (r_fdiv h1 (by first | assumption | exact Nat.le_trans (by assumption) (by decide) | exact Nat.lt_of_lt_of_le (by assumption) (by decide) | exact Int.natCast_nonneg _ | exact Int.ofNat_lt.mpr (lt4 (by assumption)) | exact dep (by assumption) (by decide) | omega) fun u t => Subscript_ (r_nm S rfl (by exact mc) (r_nm S rfl rfl (r_subT (S.keep _ _ (kb _ _ hcnt)) (by first | assumption | exact Nat.le_trans (by assumption) (by decide) | exact Nat.lt_of_lt_of_le (by assumption) (by decide) | exact Int.natCast_nonneg _ | exact Int.ofNat_lt.mpr (lt4 (by assumption)) | exact dep (by assumption) (by decide) | omega) (by first | assumption | exact Nat.le_trans (by assumption) (by decide) | exact Nat.lt_of_lt_of_le (by assumption) (by decide) | exact Int.natCast_nonneg _ | exact Int.ofNat_lt.mpr (lt4 (by assumption)) | exact dep (by assumption) (by decide) | omega) huv (r_mul (by first | assumption | exact Nat.le_trans (by assumption) (by decide) | exact Nat.lt_of_lt_of_le (by assumption) (by decide) | exact Int.natCast_nonneg _ | exact Int.ofNat_lt.mpr (lt4 (by assumption)) | exact dep (by assumption) (by decide) | omega) (by first | assumption | exact Nat.le_trans (by assumption) (by decide) | exact Nat.lt_of_lt_of_le (by assumption) (by decide) | exact Int.natCast_nonneg _ | exact Int.ofNat_lt.mpr (lt4 (by assumption)) | exact dep (by assumption) (by decide) | omega) fun u t => r_add fun ur t => r_st S rfl fun h₁ t₁ S => ?_))))))))))))
    refine wpAny_execs_nil ?_
    refine (hQ _ _ _ _ _ _ (Kp.refl _) S ⟨rfl, ⟨ur, ?_⟩, mc, mt, mself, mts⟩)
    rw [List.range_succ, List.foldl_append]; rfl
  · rintro b₁ m₁ cm₁ own₁ h₁ t₁ kb ⟨rfl, ⟨ui, mil⟩, mc, mt, mself, mts⟩ S
    have U := U.kp kb
    refine wpAny_execs_cons (wpAny_Return_some (wpAny_BinOp (r_nm S rfl (by exact mt) (wpAny_BinOp (r_nm S rfl (by exact mts) (wpAny_BinOp (r_nm S rfl (by exact mil) (Attribute_name (r_nm S rfl (by exact mself) (r_attr (U.kp S.keep) (S.keep _ _ (kb _ _ hx)) (S.keep _ _ (kb _ _ hdx)) rfl rfl rfl rfl fun t' => r_add fun u t => r_mul (by first | assumption | exact Nat.le_trans (by assumption) (by decide) | exact Nat.lt_of_lt_of_le (by assumption) (by decide) | exact Int.natCast_nonneg _ | exact Int.ofNat_lt.mpr (lt4 (by assumption)) | exact dep (by assumption) (by decide) | omega) (by first | assumption | exact Nat.le_trans (by assumption) (by decide) | exact Nat.lt_of_lt_of_le (by assumption) (by decide) | exact Int.natCast_nonneg _ | exact Int.ofNat_lt.mpr (lt4 (by assumption)) | exact dep (by assumption) (by decide) | omega) fun u t => r_add fun u t => ?_))))))))))
    exact k _ _ _ (kb.trans S.keep)
end Mine

open PySem PySem.W PyProof.Rows PySem.Calls
set_option Elab.async false
set_option maxRecDepth 100000
namespace Mine
variable {prog : Program} {w : World} {A : Around} {E : Value → Shared → Prop} {mg mb : Str → Option Value}
variable {b h : Heap} {env : Env} {wc : List (Str × Addr)} {m cm : Str → Option Value} {own : Own} {g : Array GenState} {d : Drawn} {t : Nat} {os : OsState}
variable {R : Result → Shared → Prop}

/-- x.append(e) as a statement, x a list of the frame's own -/
theorem r_append {e : Expr} {o : Expr} {apos pos spos : Pos} {Q : Flow → Shared → Prop} {s : Shared}
    (q : ∀ Q1 : Value → Shared → Prop, (∀ (a : Addr) (b : Heap) (m cm : Str → Option Value) (own : Own) (h : Heap) (t j : Nat) (vs : List Value), St b env wc m cm own h → own[j]? = some (a, isL vs) → vs.length ≤ 1000 →
        (∀ Q2 : Value → Shared → Prop, (∀ (v : Value) (b : Heap) (m cm : Str → Option Value) (own : Own) (h : Heap) (t j : Nat) (vs : List Value), St b env wc m cm own h → own[j]? = some (a, isL vs) → vs.length ≤ 1000 → (∀ h', St b env wc m cm (own.set j (a, isL (vs ++ [v]))) h' → Q .next ⟨h', g, d, t, os⟩) → Q2 v ⟨h, g, d, t, os⟩) →
          wpAny (model prog w) A (eval e env) Q2 E ⟨h, g, d, t, os⟩) → Q1 (.ref a) ⟨h, g, d, t, os⟩) → wpAny (model prog w) A (eval o env) Q1 E s)
    (he : starEach [e] env = [(false, eval e env)])
    (hc : ∃ pl, eval (.Call (.Attribute o "append" apos) [e] [] pos) env = (do
      let ov ← eval o env
      standAt apos.atName
      let (f, first) ← holding [ov] (getMethod ov "append" pl)
      callWith pos f first (backTo pos (starEach [e] env)) []))
    (hi : interactive env = false) (hsw : swapsWith (.Call (.Attribute o "append" apos) [e] [] pos) none spos.line env = pure false) :
    wpAny (model prog w) A (exec (.Expr (.Call (.Attribute o "append" apos) [e] [] pos) spos) env) Q E s := by
  obtain ⟨pl, hc⟩ := hc
  refine wpAny_Expr (MethodCall_ (pl := pl) (q _ fun a b m cm own h t j vs S hj hl q => ?_) hc) hi hsw
  obtain ⟨oa, hoa, n, rfl⟩ := S.at hj
  refine getMethod_list_append hoa rfl rfl ?_
  refine callWith_method1 (r_arg1 (q _ fun v b m cm own h t j vs S hj hl q => ?_) he) he (by rfl)
  obtain ⟨oa, hoa, n, rfl⟩ := S.at hj
  refine wpAny_list_append_plain ⟨n, hoa⟩ (fun h' hp hs => ?_) (by rw [List.size_toArray, sizeLine_eq]; omega)
  obtain ⟨n', hp⟩ := hp
  rw [List.push_toArray] at hp
  exact q h' (S.setO hj hs.extBut hp ⟨n', rfl⟩)

theorem r_tuple3 {e e' e'' : Expr} {k : Nat} {pos : Pos} {s : Shared} {Q : Value → Shared → Prop}
    (q : wpAny (model prog w) A (eval e env) (fun v s₁ => wpAny (model prog w) A (eval e' env) (fun v' s₂ => wpAny (model prog w) A (eval e'' env) (fun v'' s₃ => wpAny (model prog w) A (newTuple [v, v', v'']) Q E s₃) E s₂) E s₁) E s)
    (he : starEach [e, e', e''] env = [(false, eval e env), (false, eval e' env), (false, eval e'' env)] := by rfl) : wpAny (model prog w) A (eval (.Tuple [e, e', e''] k pos) env) Q E s := Tuple_ (r_arg3 q he)

def longF (lead : Str) : Int := max (((wsF lead.cps.toList).1.length : Int) - 1) (wsF lead.cps.toList).2.1
def nlwF (l1 l2 : Str) : List (Int × Int × Int) := (List.range (max (longF l1) (longF l2) + 1).toNat).filterMap fun (j : Nat) =>
  if ilF (wsF l2.cps.toList) (1 + (j : Int)) ≤ ilF (wsF l1.cps.toList) (1 + (j : Int)) then some (1 + (j : Int), ilF (wsF l1.cps.toList) (1 + (j : Int)), ilF (wsF l2.cps.toList) (1 + (j : Int))) else none

def tup3 (u1 u2 u3 : Tok) (x : Int × Int × Int) : Obj := { cls := .type "tuple", data := .seq #[.int x.1 u1, .int x.2.1 u2, .int x.2.2 u3] }
inductive Tris (h₀ h : Heap) : List Value → List (Int × Int × Int) → Prop
  | nil : Tris h₀ h [] []
  | cons {a : Addr} {x : Int × Int × Int} {vs : List Value} {xs : List (Int × Int × Int)} (u1 u2 u3 : Tok) : h.get? a = some (tup3 u1 u2 u3 x) → h₀.get? a = none → Tris h₀ h vs xs → Tris h₀ h (.ref a :: vs) (x :: xs)
theorem Tris.kp {h₀ h h' : Heap} (k : Kp h h') : ∀ {vs : List Value} {xs : List (Int × Int × Int)}, Tris h₀ h vs xs → Tris h₀ h' vs xs
  | _, _, .nil => .nil
  | _, _, .cons u1 u2 u3 e n r => .cons u1 u2 u3 (k _ _ e) n (r.kp k)
theorem Tris.snoc {h₀ h : Heap} {a : Addr} {x : Int × Int × Int} {u1 u2 u3 : Tok} (e : h.get? a = some (tup3 u1 u2 u3 x)) (n : h₀.get? a = none) : ∀ {vs : List Value} {xs : List (Int × Int × Int)}, Tris h₀ h vs xs → Tris h₀ h (vs ++ [.ref a]) (xs ++ [x])
  | _, _, .nil => .cons u1 u2 u3 e n .nil
  | _, _, .cons v1 v2 v3 e' n' r => .cons v1 v2 v3 e' n' (r.snoc e n)
theorem Tris.length {h₀ h : Heap} : ∀ {vs : List Value} {xs : List (Int × Int × Int)}, Tris h₀ h vs xs → vs.length = xs.length
  | _, _, .nil => rfl
  | _, _, .cons _ _ _ _ _ r => by simp [r.length]

theorem longF_bound (lead : Str) (hl : lead.length ≤ 50) : 0 ≤ longF lead ∧ longF lead ≤ 50 := by
  have bnd := wsF_bound lead.cps.toList
  have tl : lead.cps.toList.length ≤ 50 := by rw [Array.length_toList]; exact hl
  unfold longF
  omega

theorem WsAt.kp {P : Params} {h₀ h h' : Heap} {x : Addr} {lead : Str} (k : Kp h h') (W : WsAt P h₀ h x lead) : WsAt P h₀ h' x lead := by
  obtain ⟨q, W⟩ := W
  exact ⟨q, k _ _ W.hx, k _ _ W.hdx, k _ _ W.hnrm, k _ _ W.hcnt, W.hvs, W.n1, W.n2, W.n3, W.n4⟩
/-- y.indent_level(z) -/
theorem r_ind {h₀ : Heap} {y z : Str} {yp zp apos pos : Pos} {x : Addr} {lead : Str} {ts : Int} {ut : Tok} {pl : Sem Bool} {Q : Value → Shared → Prop} (U : Up w mg mb b) (S : St b env wc m cm own h) (hr : A.depth + 20 < recursionLimit) (hh : A.handled = none) (hl : lead.length ≤ 50)
    (W : WsAt w.params h₀ b x lead) (hy : env.kindOf y = some .local) (my : m y = some (.ref x)) (hz : env.kindOf z = some .local) (mz : m z = some (.int ts ut)) (h1 : 1 ≤ ts) (h2 : ts ≤ 100)
    (q : ∀ u h' t', St b env wc m cm own h' → Q (.int (ilF (wsF lead.cps.toList) ts) u) ⟨h', g, d, t', os⟩)
    (hc : eval (.Call (.Attribute (.Name y yp) "indent_level" apos) [.Name z zp] [] pos) env = (do
      let ov ← eval (.Name y yp) env
      standAt apos.atName
      let (f, first) ← holding [ov] (getMethod ov "indent_level" pl)
      callWith pos f first (backTo pos (starEach [.Name z zp] env)) []))
    (hk : env.scope.kind = .function := by rfl) (hd1 : (y == ("__debug__" : Str)) = false := by rfl) (hd2 : (z == ("__debug__" : Str)) = false := by rfl) :
    wpAny (model prog w) A (eval (.Call (.Attribute (.Name y yp) "indent_level" apos) [.Name z zp] [] pos) env) Q E ⟨h, g, d, t, os⟩ := by
  obtain ⟨qw, hx, hdx, -, -, -, -, -, -, -⟩ := id W
  exact MethodCall_ (r_nm S hy my (r_meth (U.kp S.keep) (S.keep _ _ hx) (S.keep _ _ hdx) rfl rfl rfl (callWith_meth (h₀ := b) rfl (U.kin _ _ rfl) (r_arg1 (r_nm S hz mz ⟨S.keep, wpAny_call (indent_ok (U.kp S.keep) hr hh hl (W.kp S.keep) h1 h2 fun h' t' u k => q u h' t' (S.kp k))⟩ hk hd2)))) hk hd1) hc
/-- y.longest_run_of_spaces() -/
theorem r_long {h₀ : Heap} {y : Str} {yp apos pos : Pos} {x : Addr} {lead : Str} {pl : Sem Bool} {Q : Value → Shared → Prop} (U : Up w mg mb b) (S : St b env wc m cm own h) (hr : A.depth + 20 < recursionLimit) (hh : A.handled = none) (hl : lead.length ≤ 50)
    (W : WsAt w.params h₀ b x lead) (hy : env.kindOf y = some .local) (my : m y = some (.ref x)) (q : ∀ u h' t', St b env wc m cm own h' → Q (.int (longF lead) u) ⟨h', g, d, t', os⟩)
    (hc : eval (.Call (.Attribute (.Name y yp) "longest_run_of_spaces" apos) [] [] pos) env = (do
      let ov ← eval (.Name y yp) env
      standAt apos.atName
      let (f, first) ← holding [ov] (getMethod ov "longest_run_of_spaces" pl)
      callWith pos f first (backTo pos (starEach [] env)) []))
    (hk : env.scope.kind = .function := by rfl) (hd1 : (y == ("__debug__" : Str)) = false := by rfl) :
    wpAny (model prog w) A (eval (.Call (.Attribute (.Name y yp) "longest_run_of_spaces" apos) [] [] pos) env) Q E ⟨h, g, d, t, os⟩ := by
  obtain ⟨qw, hx, hdx, -, -, -, -, -, -, -⟩ := id W
  exact MethodCall_ (r_nm S hy my (r_meth (U.kp S.keep) (S.keep _ _ hx) (S.keep _ _ hdx) rfl rfl rfl (callWith_meth0 rfl ((U.kp S.keep).kin _ _ rfl) (wpAny_call (longest_ok (U.kp S.keep) hr hh hl (W.kp S.keep) fun h' t' u k => q u h' t' (S.kp k))))) hk hd1) hc

set_option maxHeartbeats 4000000 in
theorem nlw_ok {h₁ h₂ : Heap} {x y : Addr} {l1 l2 : Str} (U : Up w mg mb h) (hr : A.depth + 40 < recursionLimit) (hh : A.handled = none) (hl1 : l1.length ≤ 50) (hl2 : l2.length ≤ 50) (W1 : WsAt w.params h₁ h x l1) (W2 : WsAt w.params h₂ h y l2)
    (k : ∀ a vs h' t', Kp h h' → h'.PlainList a (List.toArray vs) → h.get? a = none → Tris h h' vs (nlwF l1 l2) → R (.ok (.ret (.ref a))) ⟨h', g, d, t', os⟩) :
    codeAny (model prog w) A (.call (.ref 87) ⟨[.ref x, .ref y], []⟩) R ⟨h, g, d, t, os⟩ := by
  refine call_of (binds := [(Str.ofString "self", .ref x), (Str.ofString "other", .ref y)]) U (by first | assumption | exact Nat.le_trans (by assumption) (by decide) | exact Nat.lt_of_lt_of_le (by assumption) (by decide) | exact Int.natCast_nonneg _ | exact Int.ofNat_lt.mpr (lt4 (by assumption)) | exact dep (by assumption) (by decide) | omega) rfl rfl rfl rfl rfl rfl rfl rfl fun h₁ t₁ S => ?_
  have hr' : ∀ e, (A.deeper e).depth + 20 < recursionLimit := fun e => by show A.depth + 1 + 20 < _; omega
  have lb1 := longF_bound l1 hl1
  have lb2 := longF_bound l2 hl2
  refine wpAny_execs_cons (wpAny_Assign_Name (wpAny_BinOp (r_b2 U S rfl rfl Boot.max (r_long U S (hr' _) hh hl1 W1 rfl rfl (fun u h₁ t₁ S => r_long U S (hr' _) hh hl2 W2 rfl rfl (fun u h₁ t₁ S => r_max2 hh S fun u h₁ t₁ S => r_int fun u t => r_add fun un t => r_st S rfl fun h₁ t₁ S => ?_) rfl) rfl))))
  refine wpAny_execs_cons (wpAny_Assign_Name (r_list0 (r_newL S (by simp) fun la h₂ S2 hnla => r_st S2 rfl fun h₁ t₁ S3 => ?_)))
  have nla := none_of_kp S.keep hnla
  refine wpAny_execs_cons (wpAny_For (r_t2 U S3 rfl rfl Boot.range (r_int fun u t => wpAny_BinOp (r_nm S3 rfl rfl (r_int fun u t => r_add fun u t => r_range2 (n := (max (longF l1) (longF l2) + 1).toNat) S3 (by first | assumption | exact Nat.le_trans (by assumption) (by decide) | exact Nat.lt_of_lt_of_le (by assumption) (by decide) | exact Int.natCast_nonneg _ | exact Int.ofNat_lt.mpr (lt4 (by assumption)) | exact dep (by assumption) (by decide) | omega) (by first | assumption | exact Nat.le_trans (by assumption) (by decide) | exact Nat.lt_of_lt_of_le (by assumption) (by decide) | exact Int.natCast_nonneg _ | exact Int.ofNat_lt.mpr (lt4 (by assumption)) | exact dep (by assumption) (by decide) | omega) (by first | assumption | exact Nat.le_trans (by assumption) (by decide) | exact Nat.lt_of_lt_of_le (by assumption) (by decide) | exact Int.natCast_nonneg _ | exact Int.ofNat_lt.mpr (lt4 (by assumption)) | exact dep (by assumption) (by decide) | omega) (by first | assumption | exact Nat.le_trans (by assumption) (by decide) | exact Nat.lt_of_lt_of_le (by assumption) (by decide) | exact Int.natCast_nonneg _ | exact Int.ofNat_lt.mpr (lt4 (by assumption)) | exact dep (by assumption) (by decide) | omega) (by first | assumption | exact Nat.le_trans (by assumption) (by decide) | exact Nat.lt_of_lt_of_le (by assumption) (by decide) | exact Int.natCast_nonneg _ | exact Int.ofNat_lt.mpr (lt4 (by assumption)) | exact dep (by assumption) (by decide) | omega) fun I h₁ t₁ S hI => ?_)))))
  refine loopW (Walks.range (by exact hh) I 1 1 _) (fun a ha q => absurd (List.mem_singleton.mp ha) q) (fun i h q => rangeI q) S hI
    (fun i b' m _ own => ∃ vs, own = [(la, isL vs)] ∧ Tris h b' vs ((List.range i).filterMap fun (j : Nat) => if ilF (wsF l2.cps.toList) (1 + (j : Int)) ≤ ilF (wsF l1.cps.toList) (1 + (j : Int)) then some (1 + (j : Int), ilF (wsF l1.cps.toList) (1 + (j : Int)), ilF (wsF l2.cps.toList) (1 + (j : Int))) else none) ∧
      m (Str.ofString "a") = some (.ref la) ∧ m (Str.ofString "self") = some (.ref x) ∧ m (Str.ofString "other") = some (.ref y)) ⟨[], rfl, .nil, rfl, rfl, rfl⟩ ?_ ?_
  · rintro i v b₁ m₁ cm₁ own₁ h₁ t₁ oI Q' E' hi ⟨tk, rfl⟩ kb hJJ S hQ
    obtain ⟨vs, rfl, hT, ma, mself, mother⟩ := hJJ
    have ei : (1 : Int) + (i : Int) * 1 = 1 + i := ei1 _
    rw [ei]
    have U := U.kp kb
    have W1 := W1.kp kb
    have W2 := W2.kp kb
    have vl : vs.length ≤ 100 := by
      rw [hT.length]
      refine Nat.le_trans (List.length_filterMap_le _ _) ?_
      rw [List.length_range]; omega
    refine r_as S rfl fun h₁ t₁ S => ?_
    refine wpAny_execs_cons (wpAny_If (wpAny_isTrue_Compare1 (r_ind U S (hr' _) hh hl1 W1 rfl mself rfl rfl (by first | assumption | exact Nat.le_trans (by assumption) (by decide) | exact Nat.lt_of_lt_of_le (by assumption) (by decide) | exact Int.natCast_nonneg _ | exact Int.ofNat_lt.mpr (lt4 (by assumption)) | exact dep (by assumption) (by decide) | omega) (by first | assumption | exact Nat.le_trans (by assumption) (by decide) | exact Nat.lt_of_lt_of_le (by assumption) (by decide) | exact Int.natCast_nonneg _ | exact Int.ofNat_lt.mpr (lt4 (by assumption)) | exact dep (by assumption) (by decide) | omega) (fun u h₁ t₁ S => r_ind U S (hr' _) hh hl2 W2 rfl mother rfl rfl (by first | assumption | exact Nat.le_trans (by assumption) (by decide) | exact Nat.lt_of_lt_of_le (by assumption) (by decide) | exact Int.natCast_nonneg _ | exact Int.ofNat_lt.mpr (lt4 (by assumption)) | exact dep (by assumption) (by decide) | omega) (by first | assumption | exact Nat.le_trans (by assumption) (by decide) | exact Nat.lt_of_lt_of_le (by assumption) (by decide) | exact Int.natCast_nonneg _ | exact Int.ofNat_lt.mpr (lt4 (by assumption)) | exact dep (by assumption) (by decide) | omega) (fun u h₁ t₁ S => r_geI (wpAny_truthy_bool ?_)) rfl) rfl)))
    by_cases hge : ilF (wsF l2.cps.toList) (1 + (i : Int)) ≤ ilF (wsF l1.cps.toList) (1 + (i : Int))
    · rw [if_pos (by simpa using hge)]
      refine wpAny_execs_cons (r_append (fun Q1 h1 => r_nm S rfl ma (h1 la _ _ _ _ _ _ 1 vs S rfl (by first | assumption | exact Nat.le_trans (by assumption) (by decide) | exact Nat.lt_of_lt_of_le (by assumption) (by decide) | exact Int.natCast_nonneg _ | exact Int.ofNat_lt.mpr (lt4 (by assumption)) | exact dep (by assumption) (by decide) | omega) fun Q2 h2 => r_tuple3 (r_nm S rfl rfl (r_ind U S (hr' _) hh hl1 W1 rfl mself rfl rfl (by first | assumption | exact Nat.le_trans (by assumption) (by decide) | exact Nat.lt_of_lt_of_le (by assumption) (by decide) | exact Int.natCast_nonneg _ | exact Int.ofNat_lt.mpr (lt4 (by assumption)) | exact dep (by assumption) (by decide) | omega) (by first | assumption | exact Nat.le_trans (by assumption) (by decide) | exact Nat.lt_of_lt_of_le (by assumption) (by decide) | exact Int.natCast_nonneg _ | exact Int.ofNat_lt.mpr (lt4 (by assumption)) | exact dep (by assumption) (by decide) | omega) (fun u h₁ t₁ S => r_ind U S (hr' _) hh hl2 W2 rfl mother rfl rfl (by first | assumption | exact Nat.le_trans (by assumption) (by decide) | exact Nat.lt_of_lt_of_le (by assumption) (by decide) | exact Int.natCast_nonneg _ | exact Int.ofNat_lt.mpr (lt4 (by assumption)) | exact dep (by assumption) (by decide) | omega) (by first | assumption | exact Nat.le_trans (by assumption) (by decide) | exact Nat.lt_of_lt_of_le (by assumption) (by decide) | exact Int.natCast_nonneg _ | exact Int.ofNat_lt.mpr (lt4 (by assumption)) | exact dep (by assumption) (by decide) | omega) (fun u h₁ t₁ S =>
        r_newT S (by simp) fun ta b2 h₂ kb2 S2 hta hnta => (h2 _ _ _ _ _ _ _ 1 vs S2 rfl (by first | assumption | exact Nat.le_trans (by assumption) (by decide) | exact Nat.lt_of_lt_of_le (by assumption) (by decide) | exact Int.natCast_nonneg _ | exact Int.ofNat_lt.mpr (lt4 (by assumption)) | exact dep (by assumption) (by decide) | omega) fun h₃ S3 => ?_)) rfl) rfl)))) rfl ⟨_, rfl⟩ rfl rfl)
      refine wpAny_execs_nil ?_
      refine wpAny_execs_nil ?_
      refine (hQ _ _ _ _ _ _ kb2 S3 ⟨_, rfl, ?_, ma, mself, mother⟩)
      rw [List.range_succ, List.filterMap_append]
      have e : List.filterMap (fun (j : Nat) => if ilF (wsF l2.cps.toList) (1 + (j : Int)) ≤ ilF (wsF l1.cps.toList) (1 + (j : Int)) then some (1 + (j : Int), ilF (wsF l1.cps.toList) (1 + (j : Int)), ilF (wsF l2.cps.toList) (1 + (j : Int))) else none) [i] = [(1 + (i : Int), ilF (wsF l1.cps.toList) (1 + (i : Int)), ilF (wsF l2.cps.toList) (1 + (i : Int)))] := by
        simp [hge]
      rw [e]
      exact (hT.kp kb2).snoc hta (none_of_kp (kb.trans S.keep) hnta)
    · rw [if_neg (by simpa using hge)]
      refine wpAny_execs_nil ?_
      refine wpAny_execs_nil ?_
      refine (hQ _ _ _ _ _ _ (Kp.refl _) S ⟨vs, rfl, ?_, ma, mself, mother⟩)
      rw [List.range_succ, List.filterMap_append]
      simpa [hge] using hT
  · rintro b₁ m₁ cm₁ own₁ h₁ t₁ kb ⟨vs, rfl, hT, ma, mself, mother⟩ S
    refine wpAny_execs_cons (wpAny_Return_some (r_nm S rfl ma ?_))
    obtain ⟨o, ho, hP⟩ := S.at (i := 0) rfl
    exact k la vs _ _ (kb.trans S.keep) (isL_plain ho hP) nla (hT.kp S.keep)
end Mine

open PySem PySem.W PyProof.Rows PySem.Calls
set_option Elab.async false
set_option linter.unusedVariables false
set_option maxRecDepth 100000
namespace Mine
variable {prog : Program} {w : World} {A : Around} {E : Value → Shared → Prop} {mg mb : Str → Option Value}
variable {b h : Heap} {env : Env} {wc : List (Str × Addr)} {m cm : Str → Option Value} {own : Own} {g : Array GenState} {d : Drawn} {t : Nat} {os : OsState}
variable {R : Result → Shared → Prop}

theorem r_sl_sn {value slice : Expr} {x : Str} {i : Int} {u v : Tok} {Q : Value → Shared → Prop} (S : St b env wc m cm own h) (hx : x.length ≤ 1000) (q : ∀ u h' t', St b env wc m cm own h' → Q (.str (Txt.slice x (some i) none) u) ⟨h', g, d, t', os⟩)
    (hs : subscripted slice false (.str x u) (.ref h.objs.size) = operate [.ref h.objs.size, .str x u] (getItem (.str x u) (.ref h.objs.size)) := by with_unfolding_all rfl) (ht : ∀ r, letTemporaryGo value (.str x u) r = pure () := by intro _; with_unfolding_all rfl) :
    wpAny (model prog w) A (subscriptTail value slice (.str x u) (.ref h.objs.size)) Q E ⟨h.push { cls := .type "slice", data := .fields #[.int i v, .none, .none] }, g, d, t, os⟩ :=
  slice_strN_sn (s := ⟨h, g, d, t, os⟩) S.fr (allNews_news env.locals) (fun h' t' k F N => q t' h' k (S.back (extra := []) F N).1) hs ht (by rw [sizeLine_eq]; omega)
theorem r_sl_ns {value slice : Expr} {x : Str} {i : Int} {u v : Tok} {Q : Value → Shared → Prop} (S : St b env wc m cm own h) (hx : x.length ≤ 1000) (q : ∀ u h' t', St b env wc m cm own h' → Q (.str (Txt.slice x none (some i)) u) ⟨h', g, d, t', os⟩)
    (hs : subscripted slice false (.str x u) (.ref h.objs.size) = operate [.ref h.objs.size, .str x u] (getItem (.str x u) (.ref h.objs.size)) := by with_unfolding_all rfl) (ht : ∀ r, letTemporaryGo value (.str x u) r = pure () := by intro _; with_unfolding_all rfl) :
    wpAny (model prog w) A (subscriptTail value slice (.str x u) (.ref h.objs.size)) Q E ⟨h.push { cls := .type "slice", data := .fields #[.none, .int i v, .none] }, g, d, t, os⟩ :=
  slice_strN_ns (s := ⟨h, g, d, t, os⟩) S.fr (allNews_news env.locals) (fun h' t' k F N => q t' h' k (S.back (extra := []) F N).1) hs ht (by rw [sizeLine_eq]; omega)
theorem r_sl_nn {value slice : Expr} {x : Str} {u : Tok} {Q : Value → Shared → Prop} (S : St b env wc m cm own h) (hx : x.length ≤ 1000) (q : ∀ u h' t', St b env wc m cm own h' → Q (.str (Txt.slice x none none) u) ⟨h', g, d, t', os⟩)
    (hs : subscripted slice false (.str x u) (.ref h.objs.size) = operate [.ref h.objs.size, .str x u] (getItem (.str x u) (.ref h.objs.size)) := by with_unfolding_all rfl) (ht : ∀ r, letTemporaryGo value (.str x u) r = pure () := by intro _; with_unfolding_all rfl) :
    wpAny (model prog w) A (subscriptTail value slice (.str x u) (.ref h.objs.size)) Q E ⟨h.push { cls := .type "slice", data := .fields #[.none, .none, .none] }, g, d, t, os⟩ :=
  slice_strN_nn (s := ⟨h, g, d, t, os⟩) S.fr (allNews_news env.locals) (fun h' t' k F N => q t' h' k (S.back (extra := []) F N).1) hs ht (by rw [sizeLine_eq]; omega)
/-- x[e:] -/
theorem r_from {value e : Expr} {p pos : Pos} {s : Shared} {Q : Value → Shared → Prop} (q : wpAny (model prog w) A (eval value env) (fun o s₁ => wpAny (model prog w) A (eval e env) (fun i s₂ => wpAny (model prog w) A (subscriptTail value (.Slice (some e) none none p) o (.ref s₂.heap.objs.size)) Q E { s₂ with heap := s₂.heap.push { cls := .type "slice", data := .fields #[i, .none, .none] } }) E s₁) E s) :
    wpAny (model prog w) A (eval (.Subscript value (.Slice (some e) none none p) pos) env) Q E s :=
  Subscript_ (wpAny_mono q (fun o s₁ q => wpAny_Slice (PySem.evalPart_some_step (wpAny_mono q (fun i s₂ q => PySem.evalPart_none_step (PySem.evalPart_none_step q)) fun _ _ x => x))) fun _ _ x => x)
/-- x[:e] -/
theorem r_upto {value e : Expr} {p pos : Pos} {s : Shared} {Q : Value → Shared → Prop} (q : wpAny (model prog w) A (eval value env) (fun o s₁ => wpAny (model prog w) A (eval e env) (fun i s₂ => wpAny (model prog w) A (subscriptTail value (.Slice none (some e) none p) o (.ref s₂.heap.objs.size)) Q E { s₂ with heap := s₂.heap.push { cls := .type "slice", data := .fields #[.none, i, .none] } }) E s₁) E s) :
    wpAny (model prog w) A (eval (.Subscript value (.Slice none (some e) none p) pos) env) Q E s :=
  Subscript_ (wpAny_mono q (fun o s₁ q => wpAny_Slice (PySem.evalPart_none_step (PySem.evalPart_some_step (wpAny_mono q (fun i s₂ q => PySem.evalPart_none_step q) fun _ _ x => x)))) fun _ _ x => x)
theorem r_truthS {x : Str} {u : Tok} {Q : Bool → Shared → Prop} (hx : x.length ≤ 1000) (q : ∀ t', Q (decide (x.length ≠ 0)) ⟨h, g, d, t', os⟩) : wpAny (model prog w) A (truthy (.str x u)) Q E ⟨h, g, d, t, os⟩ :=
  P.truthy_str (by first | assumption | exact Nat.le_trans (by assumption) (by decide) | exact Nat.lt_of_lt_of_le (by assumption) (by decide) | exact Int.natCast_nonneg _ | exact Int.ofNat_lt.mpr (lt4 (by assumption)) | exact dep (by assumption) (by decide) | omega) (by
    have e : ((x.length : Int) != 0) = decide (x.length ≠ 0) := by
      by_cases h0 : x.length = 0 <;> simp [h0]
    rw [e]; exact q _)

inductive WSt (env : Env) (wc : List (Str × Addr)) (J : Nat → Heap → (Str → Option Value) → (Str → Option Value) → Own → Prop) (b : Heap) (g : Array GenState) (d : Drawn) (os : OsState) (k : Nat) (s' : Shared) : Prop
  | mk (b' : Heap) (m' cm' : Str → Option Value) (own' : Own) (h' : Heap) (t' : Nat) (e : s' = ⟨h', g, d, t', os⟩) (kk : Kp b b') (S : St b' env wc m' cm' own' h') (hJ : J k b' m' cm' own') : WSt env wc J b g d os k s'
def WPost (env : Env) (wc : List (Str × Addr)) (J : Nat → Heap → (Str → Option Value) → (Str → Option Value) → Own → Prop) (k : Nat) (b : Heap) (g : Array GenState) (d : Drawn) (os : OsState) (R : Result → Shared → Prop) (f : Flow) (s' : Shared) : Prop :=
  match f with
  | .next | .cont => ∃ k', k' < k ∧ WSt env wc J b g d os k' s'
  | .brk => R (.ok .next) s'
  | .ret v => R (.ok (.ret v)) s'
theorem whileW {test : Expr} {body : List Stmt} (S : St b env wc m cm own h) (J : Nat → Heap → (Str → Option Value) → (Str → Option Value) → Own → Prop) (n : Nat) (h0 : J n b m cm own)
    (step : ∀ k b₁ m₁ cm₁ own₁ h₁ t₁ (Q' : Flow → Shared → Prop) (Z' : Shared → Prop) (E' : Value → Shared → Prop), Kp b b₁ → J k b₁ m₁ cm₁ own₁ → St b₁ env wc m₁ cm₁ own₁ h₁ →
      (∀ k' b' m' cm' own' h' t', k' < k → Kp b₁ b' → St b' env wc m' cm' own' h' → J k' b' m' cm' own' → Q' .next ⟨h', g, d, t', os⟩) → (∀ s', R (.ok .next) s' → Z' s') →
      wpAny (model prog w) A (isTrue test env (eval test env)) (fun c s₂ => if c = true then wpAny (model prog w) A (execs body env) Q' E' s₂ else Z' s₂) E' ⟨h₁, g, d, t₁, os⟩) :
    codeAny (model prog w) A (.whileLoop test body [] env) R ⟨h, g, d, t, os⟩ := by
  refine codeAny_whileLoop (WSt env wc J b g d os) ?_ n ⟨b, m, cm, own, h, t, rfl, Kp.refl b, S, h0⟩
  rintro k s' ⟨b₁, m₁, cm₁, own₁, h₁, t₁, rfl, kb, S₁, hJ⟩
  refine wpAny_mono (step k b₁ m₁ cm₁ own₁ h₁ t₁ (WPost env wc J k b₁ g d os R) (fun s' => R (.ok .next) s') (notedBy (model prog w) A env fun e s' => R (.error e) s') kb hJ S₁ (fun k' b' m' cm' own' h' t' hk kk S j => ⟨k', hk, b', m', cm', own', h', t', rfl, kk, S, j⟩) fun _ q => q) (fun c s₂ q => ?_) fun _ _ e => e
  cases c with
  | false => exact ifF (wpAny_execs_nil (ifF' q))
  | true =>
    refine ifT (wpAny_mono (ifT' q) (fun f s₃ q => ?_) fun _ _ e => e)
    have nx : (∃ k', k' < k ∧ WSt env wc J b₁ g d os k' s₃) → ∃ m, m < k ∧ WSt env wc J b g d os m s₃ := by
      rintro ⟨k', hk, b', m', cm', own', h', t', e, kb', S', hJ'⟩
      exact ⟨k', hk, b', m', cm', own', h', t', e, kb.trans kb', S', hJ'⟩
    cases f with
    | next => exact nx q
    | cont => exact nx q
    | brk => exact q
    | ret v => exact q

theorem r_lower {x : Str} {u : Tok} {Q : Value → Shared → Prop} (hx : x.length ≤ 1000) (q : ∀ u t', Q (.str (Txt.lower x) u) ⟨h, g, d, t', os⟩) : wpAny (model prog w) A (call (.builtin "str.lower") [.str x u]) Q E ⟨h, g, d, t, os⟩ := SCL.lower (by first | assumption | exact Nat.le_trans (by assumption) (by decide) | exact Nat.lt_of_lt_of_le (by assumption) (by decide) | exact Int.natCast_nonneg _ | exact Int.ofNat_lt.mpr (lt4 (by assumption)) | exact dep (by assumption) (by decide) | omega) fun _ => q _ _
def subF (x y : Str) : Int := if x == y then 0 else if Txt.lower x == Txt.lower y then 1 else 2
theorem subst_ok {x y : Str} {u1 u2 : Tok} (U : Up w mg mb h) (hr : A.depth + 20 < recursionLimit) (hx : x.length ≤ 100) (hy : y.length ≤ 100)
    (k : ∀ h' t' u, Kp h h' → R (.ok (.ret (.int (subF x y) u))) ⟨h', g, d, t', os⟩) :
    codeAny (model prog w) A (.call (.ref 101) ⟨[.str x u1, .str y u2], []⟩) R ⟨h, g, d, t, os⟩ := by
  refine call_of (binds := [(Str.ofString "ch_a", .str x u1), (Str.ofString "ch_b", .str y u2)]) U (by first | assumption | exact Nat.le_trans (by assumption) (by decide) | exact Nat.lt_of_lt_of_le (by assumption) (by decide) | exact Int.natCast_nonneg _ | exact Int.ofNat_lt.mpr (lt4 (by assumption)) | exact dep (by assumption) (by decide) | omega) rfl rfl rfl rfl rfl rfl rfl rfl fun h₁ t₁ S => ?_
  refine wpAny_execs_cons (wpAny_If (wpAny_isTrue_Compare1 (r_nm S rfl rfl (r_nm S rfl rfl (eq_str (wpAny_truthy_bool ?_))))))
  unfold subF at k
  split
  · rename_i hb; rw [if_pos hb] at k
    exact wpAny_execs_cons (wpAny_Return_some (r_int fun u t => k _ _ _ S.keep))
  · rename_i hb; rw [if_neg hb] at k
    refine wpAny_execs_nil ?_
    refine wpAny_execs_cons (wpAny_If (wpAny_isTrue_Compare1 (MethodCall_ (r_nm S rfl rfl (GM.lower (callWith_method0 (r_lower (by first | assumption | exact Nat.le_trans (by assumption) (by decide) | exact Nat.lt_of_lt_of_le (by assumption) (by decide) | exact Int.natCast_nonneg _ | exact Int.ofNat_lt.mpr (lt4 (by assumption)) | exact dep (by assumption) (by decide) | omega) fun u t => MethodCall_ (r_nm S rfl rfl (GM.lower (callWith_method0 (r_lower (by first | assumption | exact Nat.le_trans (by assumption) (by decide) | exact Nat.lt_of_lt_of_le (by assumption) (by decide) | exact Int.natCast_nonneg _ | exact Int.ofNat_lt.mpr (lt4 (by assumption)) | exact dep (by assumption) (by decide) | omega) fun u t => eq_str (wpAny_truthy_bool ?_))))))))))))
    split
    · rename_i hb; rw [if_pos hb] at k
      exact wpAny_execs_cons (wpAny_Return_some (r_nmg U S rfl rfl (k _ _ _ S.keep)))
    · rename_i hb; rw [if_neg hb] at k
      refine wpAny_execs_nil ?_
      exact wpAny_execs_cons (wpAny_Return_some (r_nmg U S rfl rfl (k _ _ _ S.keep)))
end Mine

open PySem PySem.W PyProof.Rows PySem.Calls
set_option Elab.async false
set_option linter.unusedVariables false
set_option maxRecDepth 100000
namespace Mine
variable {prog : Program} {w : World} {A : Around} {E : Value → Shared → Prop} {mg mb : Str → Option Value}
variable {b h : Heap} {env : Env} {wc : List (Str × Addr)} {m cm : Str → Option Value} {own : Own} {g : Array GenState} {d : Drawn} {t : Nat} {os : OsState}
variable {R : Result → Shared → Prop}

theorem r_min2 {i j : Int} {u v : Tok} {Q : Value → Shared → Prop} (hh : A.handled = none) (S : St b env wc m cm own h) (q : ∀ u h' t', St b env wc m cm own h' → Q (.int (min i j) u) ⟨h', g, d, t', os⟩) :
    wpAny (model prog w) A (call (.builtin "min") [.int i u, .int j v]) Q E ⟨h, g, d, t, os⟩ := by
  refine PySem.min_two_ints hh fun h' tk k => ?_
  by_cases hc : j < i
  · rw [if_pos hc]; have := q v h' tk (S.kp k); rwa [show min i j = j from by omega] at this
  · rw [if_neg hc]; have := q u h' tk (S.kp k); rwa [show min i j = i from by omega] at this
/-- a new object of a grown heap becomes the frame's own -/
theorem ints_of {f : Nat → Int} : ∀ (n : Nat) (acc : List Value), acc.length = n → (∀ (i : Nat) (v : Value), acc[i]? = some v → ∃ t : Tok, v = Value.int (f i) t) → IntsAre acc ((List.range n).map f) := by
  intro n acc hl hv
  induction acc generalizing n f with
  | nil => cases hl; exact .nil
  | cons v acc ih =>
    cases n with
    | zero => cases hl
    | succ n =>
      obtain ⟨t, rfl⟩ := hv 0 v rfl
      rw [List.range_succ_eq_map, List.map_cons, List.map_map]
      exact .cons _ t (ih (f := fun i => f (i + 1)) n (by simpa using hl) fun i v e => hv (i + 1) v (by simpa using e))
/-- list(range(2, j, 2)) -/
theorem r_listR {j : Int} {n : Nat} {u1 u2 u3 : Tok} {Q : Value → Shared → Prop} (hh : A.handled = none) (S : St b env wc m cm own h) (hj : j = 2 * ((n : Int) + 1)) (hn : n ≤ 2)
    (q : ∀ a vs h' t', St b env wc m cm ((a, isL vs) :: own) h' → IntsAre vs ((List.range n).map fun (i : Nat) => 2 + (i : Int) * 2) → Q (.ref a) ⟨h', g, d, t', os⟩) :
    wpAny (model prog w) A (call (.type "range") [.int 2 u1, .int j u2, .int 2 u3]) (fun x s₁ => wpAny (model prog w) A (call (.type "list") [x]) Q E s₁) E ⟨h, g, d, t, os⟩ := by
  subst hj
  refine call_range_3 (by decide) ?_ (.inl (PyProof.noPylong_small (by decide)))
  have S1 := S.kp (Kp.push h { cls := .type "range", data := .fields #[.int 2 u1, .int (2 * ((n : Int) + 1)) u2, .int 2 u3] })
  refine call_list_range (n := n) hh (IsRange.new ..) ?_ ?_ (by first | assumption | exact Nat.le_trans (by assumption) (by decide) | exact Nat.lt_of_lt_of_le (by assumption) (by decide) | exact Int.natCast_nonneg _ | exact Int.ofNat_lt.mpr (lt4 (by assumption)) | exact dep (by assumption) (by decide) | omega) fun h' tk acc c' k ho hi => ?_
  · have : n = 0 ∨ n = 1 ∨ n = 2 := by omega
    rcases this with rfl | rfl | rfl <;> decide
  · unfold Builtin.Range.rangeSize
    rw [if_pos (by decide)]
    by_cases h0 : n = 0
    · subst h0; decide
    · rw [if_pos (by first | assumption | exact Nat.le_trans (by assumption) (by decide) | exact Nat.lt_of_lt_of_le (by assumption) (by decide) | exact Int.natCast_nonneg _ | exact Int.ofNat_lt.mpr (lt4 (by assumption)) | exact dep (by assumption) (by decide) | omega)]; omega
  · refine q _ acc.toList h' tk (S1.adopt k (size_none _) ho ⟨c', by simp⟩) (ints_of n _ (by simpa using hi.1) fun i v e => hi.2 i v (by simpa using e))

def leadL : List Str := [⟨#[]⟩, ⟨#[32]⟩, ⟨#[9]⟩, ⟨#[32, 32]⟩, ⟨#[32, 9]⟩, ⟨#[9, 32]⟩, ⟨#[9, 9]⟩]
def cond1 (a b : Str) (k : Nat) : Bool := decide ((Txt.slice a (some (k : Int)) none).length ≠ 0) && (decide ((Txt.slice b (some (k : Int)) none).length ≠ 0) && (Txt.item a (k : Int) == Txt.item b (k : Int)))
def sl2 (a : Str) (q : Nat) : Str := if q = 0 then Txt.slice a none none else Txt.slice a none (some (-(q : Int)))
def cond2 (a b : Str) (q : Nat) : Bool := decide ((sl2 a q).length ≠ 0) && (decide ((sl2 b q).length ≠ 0) && (Txt.item a (-(q : Int) - 1) == Txt.item b (-(q : Int) - 1)))
def firstNot (p : Nat → Bool) : Nat := ((List.range 4).find? fun k => !p k).getD 4
end Mine

open PySem PySem.W PyProof.Rows PySem.Calls
set_option Elab.async false
set_option linter.unusedVariables false
set_option maxRecDepth 100000
namespace Mine
variable {prog : Program} {w : World} {A : Around} {E : Value → Shared → Prop} {mg mb : Str → Option Value}
variable {b h : Heap} {env : Env} {wc : List (Str × Addr)} {m cm : Str → Option Value} {own : Own} {g : Array GenState} {d : Drawn} {t : Nat} {os : OsState}
variable {R : Result → Shared → Prop}

theorem r_isub {i j : Int} {u v : Tok} {Q : Value → Shared → Prop} (q : ∀ u t', Q (.int (i - j) u) ⟨h, g, d, t', os⟩) : wpAny (model prog w) A (inplaceOp .Sub (.int i u) (.int j v)) Q E ⟨h, g, d, t, os⟩ := P.isub_int (q _ _)
theorem r_t3 {x : Str} {p pos : Pos} {e e' e'' : Expr} {T : String} {Q : Value → Shared → Prop} (U : Up w mg mb b) (S : St b env wc m cm own h) (hx : env.kindOf x = some .globalImplicit) (hn : nsIn (KK w) mainGlobals x = some none) (hv : bootBuiltins x = some (.type T))
    (q : wpAny (model prog w) A (eval e env) (fun v s₁ => wpAny (model prog w) A (eval e' env) (fun v' s₂ => wpAny (model prog w) A (eval e'' env) (fun v'' s₃ => wpAny (model prog w) A (call (.type T) [v, v', v'']) Q E s₃) E s₂) E s₁) E ⟨h, g, d, t, os⟩)
    (he : starEach [e, e', e''] env = [(false, eval e env), (false, eval e' env), (false, eval e'' env)] := by rfl) (he1 : starEach [e, e', e''] env = (false, eval e env) :: starEach [e', e''] env := by rfl)
    (hp : ((backTo pos (starEach [e', e''] env)).any fun x => x.1) = false := by rfl)
    (hk : env.scope.kind = .function := by rfl) (hg : env.globals = mainGlobals := by rfl) (hb : env.builtins = builtinsNs := by rfl) (hne : x ≠ ("__name__" : Str) := by decide) (hd : (x == ("__debug__" : Str)) = false := by rfl) :
    wpAny (model prog w) A (eval (.Call (.Name x p) [e, e', e''] [] pos) env) Q E ⟨h, g, d, t, os⟩ :=
  wpAny_Call_NameR (r_nmb U S hx hn hv (PyProof.Rows.callWith_type1 (r_arg3 q he) he1 hp) hk hg hb hne hd)

theorem sl_le {n p k : Nat} (h : n = k - p) (hk : k ≤ 100) : n ≤ 1000 := by omega
theorem r_cond1 {p1 p2 p3 p4 p5 p6 p7 p8 p9 p10 p11 p12 p13 p14 p15 p16 : Pos} {x y : Str} {p : Nat} {ux uy up : Tok} {whole : Sem Value} {Q : Bool → Shared → Prop} (S : St b env wc m cm own h)
    (ma : m (Str.ofString "a") = some (.str x ux)) (mb_ : m (Str.ofString "b") = some (.str y uy)) (mp : m (Str.ofString "pre") = some (.int (p : Int) up))
    (ka : env.kindOf (Str.ofString "a") = some .local) (kb : env.kindOf (Str.ofString "b") = some .local) (kp : env.kindOf (Str.ofString "pre") = some .local)
    (hx : x.length ≤ 100) (hy : y.length ≤ 100) (sx : (Txt.slice x (some (p : Int)) none).length = x.length - p) (sy : (Txt.slice y (some (p : Int)) none).length = y.length - p)
    (q : ∀ h' t', St b env wc m cm own h' → Q (cond1 x y p) ⟨h', g, d, t', os⟩) (hk : env.scope.kind = .function) :
    wpAny (model prog w) A (isTrue (.BoolOp .And [.Subscript (.Name (Str.ofString "a") p1) (.Slice (some (.Name (Str.ofString "pre") p2)) none none p3) p4, .Subscript (.Name (Str.ofString "b") p5) (.Slice (some (.Name (Str.ofString "pre") p6)) none none p7) p8,
      .Compare (.Subscript (.Name (Str.ofString "a") p9) (.Name (Str.ofString "pre") p10) p11) [.Eq] [.Subscript (.Name (Str.ofString "b") p12) (.Name (Str.ofString "pre") p13) p14] p15] p16) env whole) Q E ⟨h, g, d, t, os⟩ := by
  refine isTrue_and (isTrue_plain (r_from (r_nm S ka ma (r_nm S kp mp (r_sl_sn S (by first | assumption | exact Nat.le_trans (by assumption) (by decide) | exact Nat.lt_of_lt_of_le (by assumption) (by decide) | exact Int.natCast_nonneg _ | exact Int.ofNat_lt.mpr (lt4 (by assumption)) | exact dep (by assumption) (by decide) | omega) fun u h₁ t₁ S => r_truthS (sl_le sx hx) fun t₁ => ?_) hk) hk)))
  unfold cond1 at q
  by_cases h1 : (Txt.slice x (some (p : Int)) none).length ≠ 0
  · simp only [h1, decide_true, Bool.true_and, ne_eq, not_false_eq_true, if_true] at q ⊢
    refine isTrue_and (isTrue_plain (r_from (r_nm S kb mb_ (r_nm S kp mp (r_sl_sn S (by first | assumption | exact Nat.le_trans (by assumption) (by decide) | exact Nat.lt_of_lt_of_le (by assumption) (by decide) | exact Int.natCast_nonneg _ | exact Int.ofNat_lt.mpr (lt4 (by assumption)) | exact dep (by assumption) (by decide) | omega) fun u h₁ t₁ S => r_truthS (sl_le sy hy) fun t₁ => ?_) hk) hk)))
    by_cases h2 : (Txt.slice y (some (p : Int)) none).length ≠ 0
    · simp only [h2, decide_true, Bool.true_and, ne_eq, not_false_eq_true, if_true] at q ⊢
      exact isTrue_and (wpAny_isTrue_Compare1 (Subscript_ (r_nm S ka ma (r_nm S kp mp (r_subSn (sl_pos sx h1) (k100 hx) fun u t => Subscript_ (r_nm S kb mb_ (r_nm S kp mp (r_subSn (sl_pos sy h2) (k100 hy) fun u t => eq_str (wpAny_truthy_bool (by
        cases hc : Txt.item x (p : Int) == Txt.item y (p : Int) with
        | true => rw [hc] at q; simp only [if_true]; exact wpAny_pure (q _ _ S)
        | false => rw [hc] at q; simp only [Bool.false_eq_true, if_false]; exact q _ _ S))) hk) hk)) hk) hk)))
    · simp only [h2, decide_false, Bool.false_and, if_false, Bool.false_eq_true] at q ⊢
      exact q _ _ S
  · simp only [h1, decide_false, Bool.false_and, if_false, Bool.false_eq_true] at q ⊢
    exact q _ _ S

theorem r_sl2 {p1 p2 p3 p4 p5 p6 : Pos} {n : Str} {k : Nat} {x : Str} {p : Nat} {ux up : Tok} {Q : Value → Shared → Prop} (S : St b env wc m cm own h)
    (ma : m n = some (.str x ux)) (mp : m (Str.ofString "post") = some (.int (-(p : Int)) up)) (ka : env.kindOf n = some .local) (kp : env.kindOf (Str.ofString "post") = some .local) (hx : x.length ≤ 100)
    (q : ∀ u h' t', St b env wc m cm own h' → Q (.str (sl2 x p) u) ⟨h', g, d, t', os⟩) (hk : env.scope.kind = .function) (hd : (n == ("__debug__" : Str)) = false := by rfl) :
    wpAny (model prog w) A (eval (.Subscript (.Name n p1) (.Slice none (some (.BoolOp .Or [.Name (Str.ofString "post") p2, .Constant .none k p3] p4)) none p5) p6) env) Q E ⟨h, g, d, t, os⟩ := by
  refine r_upto (r_nm S ka ma (BoolOp_or (r_nm S kp mp (truthy_int ?_) hk)) hk hd)
  unfold sl2 at q
  by_cases h0 : p = 0
  · subst h0
    rw [if_neg (by decide)]
    refine r_none (env := env) (k := k) (pos := p3) (r_sl_nn S (by first | assumption | exact Nat.le_trans (by assumption) (by decide) | exact Nat.lt_of_lt_of_le (by assumption) (by decide) | exact Int.natCast_nonneg _ | exact Int.ofNat_lt.mpr (lt4 (by assumption)) | exact dep (by assumption) (by decide) | omega) fun u h₁ t₁ S => ?_)
    have := q u h₁ t₁ S
    rwa [if_pos rfl] at this
  · rw [if_pos (by simp; omega)]
    refine r_sl_ns S (by first | assumption | exact Nat.le_trans (by assumption) (by decide) | exact Nat.lt_of_lt_of_le (by assumption) (by decide) | exact Int.natCast_nonneg _ | exact Int.ofNat_lt.mpr (lt4 (by assumption)) | exact dep (by assumption) (by decide) | omega) fun u h₁ t₁ S => ?_
    have := q u h₁ t₁ S
    rwa [if_neg h0] at this

theorem r_cond2 {p1 p2 p3 p4 p4' p5 p6 p6' p7 p8 p9 p10 p10' p10'' p11 p12 p13 p13' p13'' p14 q14 p15 q15 p16 : Pos} {k k' k1 k2 : Nat} {x y : Str} {p : Nat} {ux uy up : Tok} {whole : Sem Value} {Q : Bool → Shared → Prop} (S : St b env wc m cm own h)
    (ma : m (Str.ofString "a") = some (.str x ux)) (mb_ : m (Str.ofString "b") = some (.str y uy)) (mp : m (Str.ofString "post") = some (.int (-(p : Int)) up))
    (ka : env.kindOf (Str.ofString "a") = some .local) (kb : env.kindOf (Str.ofString "b") = some .local) (kp : env.kindOf (Str.ofString "post") = some .local)
    (hx : x.length ≤ 100) (hy : y.length ≤ 100) (sx : (sl2 x p).length = x.length - p) (sy : (sl2 y p).length = y.length - p)
    (q : ∀ h' t', St b env wc m cm own h' → Q (cond2 x y p) ⟨h', g, d, t', os⟩) (hk : env.scope.kind = .function) :
    wpAny (model prog w) A (isTrue (.BoolOp .And [.Subscript (.Name (Str.ofString "a") p1) (.Slice none (some (.BoolOp .Or [.Name (Str.ofString "post") p2, .Constant .none k p3] p4)) none p4') p5,
      .Subscript (.Name (Str.ofString "b") p6) (.Slice none (some (.BoolOp .Or [.Name (Str.ofString "post") p6', .Constant .none k' p7] p8)) none p9) p10,
      .Compare (.Subscript (.Name (Str.ofString "a") p10') (.BinOp (.Name (Str.ofString "post") p10'') .Sub (.Constant (.int 1) k1 p11) p12) p13) [.Eq] [.Subscript (.Name (Str.ofString "b") p13') (.BinOp (.Name (Str.ofString "post") p13'') .Sub (.Constant (.int 1) k2 p14) q14) p15] q15] p16) env whole) Q E ⟨h, g, d, t, os⟩ := by
  refine isTrue_and (isTrue_plain (r_sl2 S ma mp ka kp hx (fun u h₁ t₁ S => r_truthS (sl_le sx hx) fun t₁ => ?_) hk))
  unfold cond2 at q
  by_cases h1 : (sl2 x p).length ≠ 0
  · simp only [h1, decide_true, Bool.true_and, ne_eq, not_false_eq_true, if_true] at q ⊢
    refine isTrue_and (isTrue_plain (r_sl2 S mb_ mp kb kp hy (fun u h₁ t₁ S => r_truthS (sl_le sy hy) fun t₁ => ?_) hk))
    by_cases h2 : (sl2 y p).length ≠ 0
    · simp only [h2, decide_true, Bool.true_and, ne_eq, not_false_eq_true, if_true] at q ⊢
      exact isTrue_and (wpAny_isTrue_Compare1 (Subscript_ (r_nm S ka ma (wpAny_BinOp (r_nm S kp mp (r_int fun u t => r_sub fun u t => r_subSm (sl_pos sx h1) (k100 hx) fun u t => Subscript_ (r_nm S kb mb_ (wpAny_BinOp (r_nm S kp mp (r_int fun u t => r_sub fun u t => r_subSm (sl_pos sy h2) (k100 hy) fun u t => eq_str (wpAny_truthy_bool (by
        cases hc : Txt.item x (-(p : Int) - 1) == Txt.item y (-(p : Int) - 1) with
        | true => rw [hc] at q; simp only [if_true]; exact wpAny_pure (q _ _ S)
        | false => rw [hc] at q; simp only [Bool.false_eq_true, if_false]; exact q _ _ S))) hk)) hk)) hk)) hk)))
    · simp only [h2, decide_false, Bool.false_and, if_false, Bool.false_eq_true] at q ⊢
      exact q _ _ S
  · simp only [h1, decide_false, Bool.false_and, if_false, Bool.false_eq_true] at q ⊢
    exact q _ _ S
end Mine

open PySem PySem.W PyProof.Rows PySem.Calls
set_option Elab.async false
set_option linter.unusedVariables false
set_option maxRecDepth 100000
namespace Mine
variable {prog : Program} {w : World} {A : Around} {E : Value → Shared → Prop} {mg mb : Str → Option Value}
variable {b h : Heap} {env : Env} {wc : List (Str × Addr)} {m cm : Str → Option Value} {own : Own} {g : Array GenState} {d : Drawn} {t : Nat} {os : OsState}
variable {R : Result → Shared → Prop}

def inF (bc a : Str) (st : List Int × Int × Int × Int) (i : Nat) : List Int × Int × Int × Int :=
  let dist := st.1.getD i 0
  let r := min (min st.2.1 dist + 2) (st.2.2.1 + subF bc (Txt.item a (i : Int)))
  (st.1.set i r, r, dist, if r < st.2.2.2 then r else st.2.2.2)
def inS (bc a : Str) (row : List Int) (r0 : Int) (n : Nat) : List Int × Int × Int × Int := (List.range n).foldl (inF bc a) (row, r0, r0, 9223372036854775807)
def outF (a b : Str) (st : List Int × Int) (j : Nat) : List Int × Int :=
  let s := inS (Txt.item b (j : Int)) a st.1 ((j : Int) * 2) a.length
  (s.1, s.2.1)
def levO (a b : Str) (j : Nat) : List Int × Int := (List.range j).foldl (outF a b) ((List.range a.length).map fun (i : Nat) => 2 + (i : Int) * 2, 0)
def levT (x y : Str) : Int :=
  let a := if y.length < x.length then y else x
  let b := if y.length < x.length then x else y
  (levO a b b.length).2
def levP (x y : Str) : Nat := firstNot (cond1 x y)
def levX (x y : Str) : Str := Txt.slice x (some (levP x y : Int)) none
def levY (x y : Str) : Str := Txt.slice y (some (levP x y : Int)) none
def levQ (x y : Str) : Nat := firstNot (cond2 (levX x y) (levY x y))
def levA (x y : Str) : Str := sl2 (levX x y) (levQ x y)
def levB (x y : Str) : Str := sl2 (levY x y) (levQ x y)
def levF (x y : Str) : Int := if x == y then 0 else if (levA x y).length = 0 ∨ (levB x y).length = 0 then 2 * ((levA x y).length + (levB x y).length : Nat) else levT (levA x y) (levB x y)
theorem inS_succ (bc a : Str) (row : List Int) (r0 : Int) (n : Nat) : inS bc a row r0 (n + 1) = inF bc a (inS bc a row r0 n) n := by
  unfold inS; rw [List.range_succ, List.foldl_append]; rfl
theorem inS_len (bc a : Str) (row : List Int) (r0 : Int) (n : Nat) : (inS bc a row r0 n).1.length = row.length := by
  induction n with
  | zero => rfl
  | succ n ih => rw [inS_succ]; simp only [inF, List.length_set]; exact ih
theorem levO_succ (a b : Str) (j : Nat) : levO a b (j + 1) = outF a b (levO a b j) j := by
  unfold levO; rw [List.range_succ, List.foldl_append]; rfl
theorem levO_len (a b : Str) (j : Nat) : (levO a b j).1.length = a.length := by
  induction j with
  | zero => simp [levO]
  | succ n ih => rw [levO_succ]; simp only [outF, inS_len]; exact ih
theorem firstNot_eq {p : Nat → Bool} {n : Nat} (h1 : ∀ j, j < n → p j = true) (h2 : p n = false) (hn : n ≤ 2) : n = firstNot p := by
  have : n = 0 ∨ n = 1 ∨ n = 2 := by omega
  unfold firstNot
  rcases this with rfl | rfl | rfl
  · simp [List.range, List.range.loop, List.find?, h2]
  · have := h1 0 (by decide); simp [List.range, List.range.loop, List.find?, h2, this]
  · have := h1 0 (by decide); have := h1 1 (by decide); simp_all [List.range, List.range.loop, List.find?]
theorem lead_len : ∀ a ∈ leadL, a.length ≤ 2 := by decide +kernel
theorem lead_item : ∀ a ∈ leadL, ∀ i, i < a.length → (Txt.item a (i : Int)).length ≤ 1 := by
  have : ∀ a ∈ leadL, ∀ i ∈ List.range 3, (Txt.item a (i : Int)).length ≤ 1 := by decide +kernel
  intro a ha i hi
  exact this a ha i (List.mem_range.mpr (by have := lead_len a ha; omega))
theorem lead_sl1 : ∀ a ∈ leadL, ∀ k : Nat, k ≤ 2 → (Txt.slice a (some (k : Int)) none).length = a.length - k := by
  have : ∀ a ∈ leadL, ∀ k ∈ List.range 4, (Txt.slice a (some (k : Int)) none).length = a.length - k := by decide +kernel
  exact fun a ha k hk => this a ha k (List.mem_range.mpr (by first | assumption | exact Nat.le_trans (by assumption) (by decide) | exact Nat.lt_of_lt_of_le (by assumption) (by decide) | exact Int.natCast_nonneg _ | exact Int.ofNat_lt.mpr (lt4 (by assumption)) | exact dep (by assumption) (by decide) | omega))
theorem lead_sl2 : ∀ a ∈ leadL, ∀ k : Nat, k ≤ 2 → (sl2 a k).length = a.length - k := by
  have : ∀ a ∈ leadL, ∀ k ∈ List.range 4, (sl2 a k).length = a.length - k := by decide +kernel
  exact fun a ha k hk => this a ha k (List.mem_range.mpr (by first | assumption | exact Nat.le_trans (by assumption) (by decide) | exact Nat.lt_of_lt_of_le (by assumption) (by decide) | exact Int.natCast_nonneg _ | exact Int.ofNat_lt.mpr (lt4 (by assumption)) | exact dep (by assumption) (by decide) | omega))
theorem lead_s1 : ∀ a ∈ leadL, ∀ k : Nat, k ≤ 2 → (Txt.slice a (some (k : Int)) none) ∈ leadL := by
  have : ∀ a ∈ leadL, ∀ k ∈ List.range 4, (Txt.slice a (some (k : Int)) none) ∈ leadL := by decide +kernel
  exact fun a ha k hk => this a ha k (List.mem_range.mpr (by first | assumption | exact Nat.le_trans (by assumption) (by decide) | exact Nat.lt_of_lt_of_le (by assumption) (by decide) | exact Int.natCast_nonneg _ | exact Int.ofNat_lt.mpr (lt4 (by assumption)) | exact dep (by assumption) (by decide) | omega))
theorem lead_s2 : ∀ a ∈ leadL, ∀ k : Nat, k ≤ 2 → sl2 a k ∈ leadL := by
  have : ∀ a ∈ leadL, ∀ k ∈ List.range 4, sl2 a k ∈ leadL := by decide +kernel
  exact fun a ha k hk => this a ha k (List.mem_range.mpr (by first | assumption | exact Nat.le_trans (by assumption) (by decide) | exact Nat.lt_of_lt_of_le (by assumption) (by decide) | exact Int.natCast_nonneg _ | exact Int.ofNat_lt.mpr (lt4 (by assumption)) | exact dep (by assumption) (by decide) | omega))
theorem lead_c1 : ∀ a ∈ leadL, ∀ b ∈ leadL, cond1 a b 2 = false := by decide +kernel
theorem lead_c2 : ∀ a ∈ leadL, ∀ b ∈ leadL, cond2 a b 2 = false := by decide +kernel
theorem lead_min : ∀ a ∈ leadL, ∀ b ∈ leadL, a.length ≠ 0 → a.length ≤ b.length → ∀ j, j < b.length → (inS (Txt.item b (j : Int)) a (levO a b j).1 ((j : Int) * 2) a.length).2.2.2 ≤ 4 := by
  have : ∀ a ∈ leadL, ∀ b ∈ leadL, a.length ≠ 0 → a.length ≤ b.length → ∀ j ∈ List.range 3, j < b.length → (inS (Txt.item b (j : Int)) a (levO a b j).1 ((j : Int) * 2) a.length).2.2.2 ≤ 4 := by decide +kernel
  exact fun a ha b hb h0 h1 j hj => this a ha b hb h0 h1 j (List.mem_range.mpr (by have := lead_len b hb; omega)) hj
theorem lev_ch : ∀ a ∈ leadL, ∀ b ∈ leadL, levF a b = 2 * chF a b := by decide +kernel

structure LvO (own : Own) (m : Str → Option Value) (ra : Addr) (a3 b3 : Str) (ua ub u3 : Tok) (st : List Int × Int) (vs : List Value) (ur : Tok) : Prop where
  ho : own = [(ra, isL vs)]
  hI : IntsAre vs st.1
  ma : m (Str.ofString "a") = some (.str a3 ua)
  mb : m (Str.ofString "b") = some (.str b3 ub)
  mc : m (Str.ofString "max_cost") = some (.int 4 u3)
  mrow : m (Str.ofString "row") = some (.ref ra)
  mres : m (Str.ofString "result") = some (.int st.2 ur)
structure LvI (own : Own) (m : Str → Option Value) (I : Addr) (oI : Obj) (ra : Addr) (a3 b3 bc : Str) (ua ub u3 ubc : Tok) (st : List Int × Int × Int × Int) (vs : List Value) (ur ud um : Tok) : Prop where
  ho : own = [(I, fun o => o = oI), (ra, isL vs)]
  hI : IntsAre vs st.1
  ma : m (Str.ofString "a") = some (.str a3 ua)
  mb : m (Str.ofString "b") = some (.str b3 ub)
  mc : m (Str.ofString "max_cost") = some (.int 4 u3)
  mrow : m (Str.ofString "row") = some (.ref ra)
  mbc : m (Str.ofString "bchar") = some (.str bc ubc)
  mres : m (Str.ofString "result") = some (.int st.2.1 ur)
  mdist : m (Str.ofString "distance") = some (.int st.2.2.1 ud)
  mmin : m (Str.ofString "minimum") = some (.int st.2.2.2 um)

set_option maxHeartbeats 8000000 in
theorem lev_ok {x y : Str} {u1 u2 u3 : Tok} (U : Up w mg mb h) (hr : A.depth + 40 < recursionLimit) (hh : A.handled = none) (hx : x ∈ leadL) (hy : y ∈ leadL)
    (k : ∀ h' t' u, Kp h h' → R (.ok (.ret (.int (levF x y) u))) ⟨h', g, d, t', os⟩) :
    codeAny (model prog w) A (.call (.ref 108) ⟨[.str x u1, .str y u2, .int 4 u3], []⟩) R ⟨h, g, d, t, os⟩ := by
  refine call_of (binds := [(Str.ofString "a", .str x u1), (Str.ofString "b", .str y u2), (Str.ofString "max_cost", .int 4 u3)]) U (by first | assumption | exact Nat.le_trans (by assumption) (by decide) | exact Nat.lt_of_lt_of_le (by assumption) (by decide) | exact Int.natCast_nonneg _ | exact Int.ofNat_lt.mpr (lt4 (by assumption)) | exact dep (by assumption) (by decide) | omega) rfl rfl rfl rfl rfl rfl rfl rfl fun h₁ t₁ S => ?_
  have hr' : ∀ e, (A.deeper e).depth + 20 < recursionLimit := fun e => by show A.depth + 1 + 20 < _; omega
  have lx := lead_len x hx
  have ly := lead_len y hy
  refine wpAny_execs_cons (wpAny_If (wpAny_isTrue_Compare1 (r_nm S rfl rfl (r_nm S rfl rfl (eq_str (wpAny_truthy_bool ?_))))))
  unfold levF at k
  split
  · rename_i hb; rw [if_pos hb] at k
    exact wpAny_execs_cons (wpAny_Return_some (r_int fun u t => k _ _ _ S.keep))
  rename_i hb; rw [if_neg hb] at k
  refine wpAny_execs_nil ?_
  refine wpAny_execs_cons (wpAny_Assign_Name (r_int fun u t => r_st S rfl fun h₁ t₁ S => ?_))
  refine wpAny_execs_cons (wpAny_While (whileW S (fun n _ m _ own => ∃ (p : Nat) (up : Tok), n + p = 2 ∧ (∀ j, j < p → cond1 x y j = true) ∧ own = [] ∧ m (Str.ofString "a") = some (.str x u1) ∧ m (Str.ofString "b") = some (.str y u2) ∧ m (Str.ofString "max_cost") = some (.int 4 u3) ∧ m (Str.ofString "pre") = some (.int (p : Int) up)) 2 ⟨0, u, rfl, fun j hj => absurd hj (by first | assumption | exact Nat.le_trans (by assumption) (by decide) | exact Nat.lt_of_lt_of_le (by assumption) (by decide) | exact Int.natCast_nonneg _ | exact Int.ofNat_lt.mpr (lt4 (by assumption)) | exact dep (by assumption) (by decide) | omega), rfl, rfl, rfl, rfl, rfl⟩ ?_))
  rintro n b₁ m₁ cm₁ own₁ h₁ t₁ Q' Z' E' kb hJJ S hQ hZ
  obtain ⟨p, up, hn, hall, rfl, ma, mb_, mc, mp⟩ := hJJ
  have U := U.kp kb
  refine r_cond1 S ma mb_ mp rfl rfl rfl (by first | assumption | exact Nat.le_trans (by assumption) (by decide) | exact Nat.lt_of_lt_of_le (by assumption) (by decide) | exact Int.natCast_nonneg _ | exact Int.ofNat_lt.mpr (lt4 (by assumption)) | exact dep (by assumption) (by decide) | omega) (by first | assumption | exact Nat.le_trans (by assumption) (by decide) | exact Nat.lt_of_lt_of_le (by assumption) (by decide) | exact Int.natCast_nonneg _ | exact Int.ofNat_lt.mpr (lt4 (by assumption)) | exact dep (by assumption) (by decide) | omega) (lead_sl1 x hx p (by first | assumption | exact Nat.le_trans (by assumption) (by decide) | exact Nat.lt_of_lt_of_le (by assumption) (by decide) | exact Int.natCast_nonneg _ | exact Int.ofNat_lt.mpr (lt4 (by assumption)) | exact dep (by assumption) (by decide) | omega)) (lead_sl1 y hy p (by first | assumption | exact Nat.le_trans (by assumption) (by decide) | exact Nat.lt_of_lt_of_le (by assumption) (by decide) | exact Int.natCast_nonneg _ | exact Int.ofNat_lt.mpr (lt4 (by assumption)) | exact dep (by assumption) (by decide) | omega)) (fun h₁ t₁ S => ?_) rfl
  cases hc : cond1 x y p with
  | true =>
    rw [if_pos rfl]
    have hp2 : p ≠ 2 := fun e => by rw [e, lead_c1 x hx y hy] at hc; cases hc
    refine wpAny_execs_cons (wpAny_AugAssign_Name (r_ld S rfl mp (r_int fun u t => r_iadd fun up' t => r_st S rfl fun h₁ t₁ S => wpAny_execs_nil ?_)))
    refine hQ (n - 1) _ _ _ _ _ _ (by first | assumption | exact Nat.le_trans (by assumption) (by decide) | exact Nat.lt_of_lt_of_le (by assumption) (by decide) | exact Int.natCast_nonneg _ | exact Int.ofNat_lt.mpr (lt4 (by assumption)) | exact dep (by assumption) (by decide) | omega) (Kp.refl _) S ⟨p + 1, up', by omega, ?_, rfl, ma, mb_, mc, ?_⟩
    · intro j hj
      rcases Nat.lt_succ_iff_lt_or_eq.mp hj with q | rfl
      · exact hall j q
      · exact hc
    · show some _ = _
      rw [Int.natCast_add]; rfl
  | false =>
    rw [if_neg (by decide)]
    refine hZ _ ?_
    have ep : p = levP x y := firstNot_eq hall hc (by first | assumption | exact Nat.le_trans (by assumption) (by decide) | exact Nat.lt_of_lt_of_le (by assumption) (by decide) | exact Int.natCast_nonneg _ | exact Int.ofNat_lt.mpr (lt4 (by assumption)) | exact dep (by assumption) (by decide) | omega)
    have hp : p ≤ 2 := by omega
    clear hall hc hn
    subst ep
    refine wpAny_execs_cons (wpAny_Assign_Name (r_from (r_nm S rfl ma (r_nm S rfl mp (r_sl_sn S (by first | assumption | exact Nat.le_trans (by assumption) (by decide) | exact Nat.lt_of_lt_of_le (by assumption) (by decide) | exact Int.natCast_nonneg _ | exact Int.ofNat_lt.mpr (lt4 (by assumption)) | exact dep (by assumption) (by decide) | omega) fun ux h₁ t₁ S => r_st (v := .str (levX x y) ux) S rfl fun h₁ t₁ S => ?_)))))
    refine wpAny_execs_cons (wpAny_Assign_Name (r_from (r_nm S rfl mb_ (r_nm S rfl mp (r_sl_sn S (by first | assumption | exact Nat.le_trans (by assumption) (by decide) | exact Nat.lt_of_lt_of_le (by assumption) (by decide) | exact Int.natCast_nonneg _ | exact Int.ofNat_lt.mpr (lt4 (by assumption)) | exact dep (by assumption) (by decide) | omega) fun uy h₁ t₁ S => r_st (v := .str (levY x y) uy) S rfl fun h₁ t₁ S => ?_)))))
    refine wpAny_execs_cons (wpAny_Assign_Name (r_int fun u t => r_st S rfl fun h₁ t₁ S => ?_))
    have hx1 : levX x y ∈ leadL := lead_s1 x hx _ hp
    have hy1 : levY x y ∈ leadL := lead_s1 y hy _ hp
    have eA : levA x y = sl2 (levX x y) (firstNot (cond2 (levX x y) (levY x y))) := rfl
    have eB : levB x y = sl2 (levY x y) (firstNot (cond2 (levX x y) (levY x y))) := rfl
    rw [eA, eB] at k
    clear eA eB hp mp
    generalize levX x y = x1 at *
    generalize levY x y = y1 at *
    have lx1 := lead_len _ hx1
    have ly1 := lead_len _ hy1
    refine wpAny_execs_cons (wpAny_While (whileW S (fun n _ m _ own => ∃ (p : Nat) (up : Tok), n + p = 2 ∧ (∀ j, j < p → cond2 x1 y1 j = true) ∧ own = [] ∧ m (Str.ofString "a") = some (.str x1 ux) ∧ m (Str.ofString "b") = some (.str y1 uy) ∧ m (Str.ofString "max_cost") = some (.int 4 u3) ∧ m (Str.ofString "post") = some (.int (-(p : Int)) up)) 2 ⟨0, u, rfl, fun j hj => absurd hj (by first | assumption | exact Nat.le_trans (by assumption) (by decide) | exact Nat.lt_of_lt_of_le (by assumption) (by decide) | exact Int.natCast_nonneg _ | exact Int.ofNat_lt.mpr (lt4 (by assumption)) | exact dep (by assumption) (by decide) | omega), rfl, rfl, rfl, mc, rfl⟩ ?_))
    clear S ma mb_ mc
    rintro n b₂ m₂ cm₂ own₂ h₂ t₂ Q' Z' E' kb2 hJJ S hQ hZ
    obtain ⟨q, uq, hn, hall, rfl, ma, mb_, mc, mp⟩ := hJJ
    have U := U.kp kb2
    have kb := kb.trans kb2
    refine r_cond2 S ma mb_ mp rfl rfl rfl (by first | assumption | exact Nat.le_trans (by assumption) (by decide) | exact Nat.lt_of_lt_of_le (by assumption) (by decide) | exact Int.natCast_nonneg _ | exact Int.ofNat_lt.mpr (lt4 (by assumption)) | exact dep (by assumption) (by decide) | omega) (by first | assumption | exact Nat.le_trans (by assumption) (by decide) | exact Nat.lt_of_lt_of_le (by assumption) (by decide) | exact Int.natCast_nonneg _ | exact Int.ofNat_lt.mpr (lt4 (by assumption)) | exact dep (by assumption) (by decide) | omega) (lead_sl2 _ hx1 q (by first | assumption | exact Nat.le_trans (by assumption) (by decide) | exact Nat.lt_of_lt_of_le (by assumption) (by decide) | exact Int.natCast_nonneg _ | exact Int.ofNat_lt.mpr (lt4 (by assumption)) | exact dep (by assumption) (by decide) | omega)) (lead_sl2 _ hy1 q (by first | assumption | exact Nat.le_trans (by assumption) (by decide) | exact Nat.lt_of_lt_of_le (by assumption) (by decide) | exact Int.natCast_nonneg _ | exact Int.ofNat_lt.mpr (lt4 (by assumption)) | exact dep (by assumption) (by decide) | omega)) (fun h₁ t₁ S => ?_) rfl
    cases hc : cond2 x1 y1 q with
    | true =>
      rw [if_pos rfl]
      have hp2 : q ≠ 2 := fun e => by rw [e, lead_c2 _ hx1 _ hy1] at hc; cases hc
      refine wpAny_execs_cons (wpAny_AugAssign_Name (r_ld S rfl mp (r_int fun u t => r_isub fun up' t => r_st S rfl fun h₁ t₁ S => wpAny_execs_nil ?_)))
      refine hQ (n - 1) _ _ _ _ _ _ (by first | assumption | exact Nat.le_trans (by assumption) (by decide) | exact Nat.lt_of_lt_of_le (by assumption) (by decide) | exact Int.natCast_nonneg _ | exact Int.ofNat_lt.mpr (lt4 (by assumption)) | exact dep (by assumption) (by decide) | omega) (Kp.refl _) S ⟨q + 1, up', by omega, ?_, rfl, ma, mb_, mc, ?_⟩
      · intro j hj
        rcases Nat.lt_succ_iff_lt_or_eq.mp hj with q | rfl
        · exact hall j q
        · exact hc
      · have e : -((q + 1 : Nat) : Int) = -(q : Int) - 1 := by omega
        rw [e]; rfl
    | false =>
      rw [if_neg (by decide)]
      refine hZ _ ?_
      have hq : q ≤ 2 := by omega
      have eq : q = firstNot (cond2 x1 y1) := firstNot_eq hall hc hq
      rw [← eq] at k
      clear hall hc hn eq
      refine wpAny_execs_cons (wpAny_Assign_Name (r_sl2 S ma mp rfl rfl (by first | assumption | exact Nat.le_trans (by assumption) (by decide) | exact Nat.lt_of_lt_of_le (by assumption) (by decide) | exact Int.natCast_nonneg _ | exact Int.ofNat_lt.mpr (lt4 (by assumption)) | exact dep (by assumption) (by decide) | omega) (fun ux h₁ t₁ S => r_st S rfl fun h₁ t₁ S => ?_) rfl))
      refine wpAny_execs_cons (wpAny_Assign_Name (r_sl2 S mb_ mp rfl rfl (by first | assumption | exact Nat.le_trans (by assumption) (by decide) | exact Nat.lt_of_lt_of_le (by assumption) (by decide) | exact Int.natCast_nonneg _ | exact Int.ofNat_lt.mpr (lt4 (by assumption)) | exact dep (by assumption) (by decide) | omega) (fun uy h₁ t₁ S => r_st S rfl fun h₁ t₁ S => ?_) rfl))
      have hxa := lead_s2 _ hx1 _ hq
      have hyb := lead_s2 _ hy1 _ hq
      generalize sl2 x1 q = a2 at *
      generalize sl2 y1 q = b2 at *
      clear mp hq lx1 ly1 hx1 hy1
      have la := lead_len _ hxa
      have lb := lead_len _ hyb
      refine wpAny_execs_cons (wpAny_If (isTrue_or (isTrue_not (isTrue_plain (r_nm S rfl rfl (r_truthS (by first | assumption | exact Nat.le_trans (by assumption) (by decide) | exact Nat.lt_of_lt_of_le (by assumption) (by decide) | exact Int.natCast_nonneg _ | exact Int.ofNat_lt.mpr (lt4 (by assumption)) | exact dep (by assumption) (by decide) | omega) fun t => ?_))))))
      by_cases ha0 : a2.length = 0
      · rw [if_pos (.inl ha0), Int.natCast_add] at k
        have ea : decide (a2.length ≠ 0) = false := by simpa using ha0
        rw [ea, if_pos (by decide), if_pos rfl]
        exact wpAny_execs_cons (wpAny_Return_some (wpAny_BinOp (r_nmg U S rfl rfl (wpAny_BinOp (r_b1 U S rfl rfl Boot.len (r_nm S rfl rfl (r_lenS (by first | assumption | exact Nat.le_trans (by assumption) (by decide) | exact Nat.lt_of_lt_of_le (by assumption) (by decide) | exact Int.natCast_nonneg _ | exact Int.ofNat_lt.mpr (lt4 (by assumption)) | exact dep (by assumption) (by decide) | omega) fun u t => r_b1 U S rfl rfl Boot.len (r_nm S rfl rfl (r_lenS (by first | assumption | exact Nat.le_trans (by assumption) (by decide) | exact Nat.lt_of_lt_of_le (by assumption) (by decide) | exact Int.natCast_nonneg _ | exact Int.ofNat_lt.mpr (lt4 (by assumption)) | exact dep (by assumption) (by decide) | omega) fun u t => r_add fun u t => r_mul (by first | assumption | exact Nat.le_trans (by assumption) (by decide) | exact Nat.lt_of_lt_of_le (by assumption) (by decide) | exact Int.natCast_nonneg _ | exact Int.ofNat_lt.mpr (lt4 (by assumption)) | exact dep (by assumption) (by decide) | omega) (by first | assumption | exact Nat.le_trans (by assumption) (by decide) | exact Nat.lt_of_lt_of_le (by assumption) (by decide) | exact Int.natCast_nonneg _ | exact Int.ofNat_lt.mpr (lt4 (by assumption)) | exact dep (by assumption) (by decide) | omega) fun u t => k _ _ _ (kb.trans S.keep))))))))))
      have ea : decide (a2.length ≠ 0) = true := by simpa using ha0
      rw [ea, if_neg (by decide)]
      refine isTrue_or (isTrue_not (isTrue_plain (r_nm S rfl rfl (r_truthS (by first | assumption | exact Nat.le_trans (by assumption) (by decide) | exact Nat.lt_of_lt_of_le (by assumption) (by decide) | exact Int.natCast_nonneg _ | exact Int.ofNat_lt.mpr (lt4 (by assumption)) | exact dep (by assumption) (by decide) | omega) fun t => ?_))))
      by_cases hb0 : b2.length = 0
      · rw [if_pos (.inr hb0), Int.natCast_add] at k
        have eb : decide (b2.length ≠ 0) = false := by simpa using hb0
        rw [eb, if_pos (by decide), if_pos rfl]
        exact wpAny_execs_cons (wpAny_Return_some (wpAny_BinOp (r_nmg U S rfl rfl (wpAny_BinOp (r_b1 U S rfl rfl Boot.len (r_nm S rfl rfl (r_lenS (by first | assumption | exact Nat.le_trans (by assumption) (by decide) | exact Nat.lt_of_lt_of_le (by assumption) (by decide) | exact Int.natCast_nonneg _ | exact Int.ofNat_lt.mpr (lt4 (by assumption)) | exact dep (by assumption) (by decide) | omega) fun u t => r_b1 U S rfl rfl Boot.len (r_nm S rfl rfl (r_lenS (by first | assumption | exact Nat.le_trans (by assumption) (by decide) | exact Nat.lt_of_lt_of_le (by assumption) (by decide) | exact Int.natCast_nonneg _ | exact Int.ofNat_lt.mpr (lt4 (by assumption)) | exact dep (by assumption) (by decide) | omega) fun u t => r_add fun u t => r_mul (by first | assumption | exact Nat.le_trans (by assumption) (by decide) | exact Nat.lt_of_lt_of_le (by assumption) (by decide) | exact Int.natCast_nonneg _ | exact Int.ofNat_lt.mpr (lt4 (by assumption)) | exact dep (by assumption) (by decide) | omega) (by first | assumption | exact Nat.le_trans (by assumption) (by decide) | exact Nat.lt_of_lt_of_le (by assumption) (by decide) | exact Int.natCast_nonneg _ | exact Int.ofNat_lt.mpr (lt4 (by assumption)) | exact dep (by assumption) (by decide) | omega) fun u t => k _ _ _ (kb.trans S.keep))))))))))
      rw [if_neg (by first | assumption | exact Nat.le_trans (by assumption) (by decide) | exact Nat.lt_of_lt_of_le (by assumption) (by decide) | exact Int.natCast_nonneg _ | exact Int.ofNat_lt.mpr (lt4 (by assumption)) | exact dep (by assumption) (by decide) | omega)] at k
      have eb : decide (b2.length ≠ 0) = true := by simpa using hb0
      rw [eb, if_neg (by decide)]
      refine wpAny_pure ?_
      rw [if_neg (by decide)]
      refine wpAny_execs_nil ?_
      refine wpAny_execs_cons (wpAny_If (isTrue_or (wpAny_isTrue_Compare1 (r_b1 U S rfl rfl Boot.len (r_nm S rfl rfl (r_lenS (by first | assumption | exact Nat.le_trans (by assumption) (by decide) | exact Nat.lt_of_lt_of_le (by assumption) (by decide) | exact Int.natCast_nonneg _ | exact Int.ofNat_lt.mpr (lt4 (by assumption)) | exact dep (by assumption) (by decide) | omega) fun u t => r_nmg U S rfl rfl (gt_int (wpAny_truthy_bool ?_))))))))
      rw [if_neg (by simp; omega)]
      refine isTrue_or (wpAny_isTrue_Compare1 (r_b1 U S rfl rfl Boot.len (r_nm S rfl rfl (r_lenS (by first | assumption | exact Nat.le_trans (by assumption) (by decide) | exact Nat.lt_of_lt_of_le (by assumption) (by decide) | exact Int.natCast_nonneg _ | exact Int.ofNat_lt.mpr (lt4 (by assumption)) | exact dep (by assumption) (by decide) | omega) fun u t => r_nmg U S rfl rfl (gt_int (wpAny_truthy_bool ?_))))))
      rw [if_neg (by simp; omega)]
      refine wpAny_pure ?_
      rw [if_neg (by decide)]
      refine wpAny_execs_nil ?_
      refine cut S (fun _ m _ own => ∃ (u v : Tok), own = [] ∧ m (Str.ofString "a") = some (.str (if b2.length < a2.length then b2 else a2) u) ∧ m (Str.ofString "b") = some (.str (if b2.length < a2.length then a2 else b2) v) ∧ m (Str.ofString "max_cost") = some (.int 4 u3))
        (fun Q' hC => wpAny_If (wpAny_isTrue_Compare1 (r_b1 U S rfl rfl Boot.len (r_nm S rfl rfl (r_lenS (by first | assumption | exact Nat.le_trans (by assumption) (by decide) | exact Nat.lt_of_lt_of_le (by assumption) (by decide) | exact Int.natCast_nonneg _ | exact Int.ofNat_lt.mpr (lt4 (by assumption)) | exact dep (by assumption) (by decide) | omega) fun u t => r_b1 U S rfl rfl Boot.len (r_nm S rfl rfl (r_lenS (by first | assumption | exact Nat.le_trans (by assumption) (by decide) | exact Nat.lt_of_lt_of_le (by assumption) (by decide) | exact Int.natCast_nonneg _ | exact Int.ofNat_lt.mpr (lt4 (by assumption)) | exact dep (by assumption) (by decide) | omega) fun u t => lt_int (wpAny_truthy_bool ?_)))))))) ?_
      · by_cases hlt : b2.length < a2.length
        · rw [if_pos (by simpa using hlt)]
          refine wpAny_execs_cons (Assign_Tuple_swapped (names := [Str.ofString "a", Str.ofString "b"]) (r_tuple2 (r_nm S rfl rfl (r_nm S rfl rfl (r_newT S (by simp) fun a b' h' kb' S ht _ => r_swap2 S hh ⟨_, S.keep _ _ ht, rfl, _, rfl⟩ rfl rfl fun h' t' S => wpAny_execs_nil (hC _ _ _ _ _ _ kb' S ⟨uy, ux, rfl, ?_, ?_, mc⟩))))))
          · rw [if_pos hlt]; rfl
          · rw [if_pos hlt]; rfl
        · rw [if_neg (by simpa using hlt)]
          refine wpAny_execs_nil (hC _ _ _ _ _ _ (Kp.refl _) S ⟨ux, uy, rfl, ?_, ?_, mc⟩)
          · rw [if_neg hlt]; rfl
          · rw [if_neg hlt]; rfl
      have kT : levT a2 b2 = (levO (if b2.length < a2.length then b2 else a2) (if b2.length < a2.length then a2 else b2) (if b2.length < a2.length then a2 else b2).length).2 := rfl
      rw [kT] at k
      clear kT S
      have hxa' : (if b2.length < a2.length then b2 else a2) ∈ leadL := by split <;> assumption
      have hyb' : (if b2.length < a2.length then a2 else b2) ∈ leadL := by split <;> assumption
      have h0 : (if b2.length < a2.length then b2 else a2).length ≠ 0 := by split <;> omega
      have h01 : (if b2.length < a2.length then b2 else a2).length ≤ (if b2.length < a2.length then a2 else b2).length := by split <;> omega
      generalize (if b2.length < a2.length then b2 else a2) = a3 at *
      generalize (if b2.length < a2.length then a2 else b2) = b3 at *
      have la3 := lead_len _ hxa'
      have lb3 := lead_len _ hyb'
      clear ea eb ha0 hb0 la lb hxa hyb
      rintro b₃ m₃ cm₃ own₃ h₃ t₃ kb3 ⟨ua, ub, rfl, ma, mb_, mc⟩ S
      have U := U.kp kb3
      have kb := kb.trans kb3
      refine wpAny_execs_cons (wpAny_If (wpAny_isTrue_Compare1 (wpAny_BinOp (wpAny_BinOp (r_b1 U S rfl rfl Boot.len (r_nm S rfl mb_ (r_lenS (by first | assumption | exact Nat.le_trans (by assumption) (by decide) | exact Nat.lt_of_lt_of_le (by assumption) (by decide) | exact Int.natCast_nonneg _ | exact Int.ofNat_lt.mpr (lt4 (by assumption)) | exact dep (by assumption) (by decide) | omega) fun u t => r_b1 U S rfl rfl Boot.len (r_nm S rfl ma (r_lenS (by first | assumption | exact Nat.le_trans (by assumption) (by decide) | exact Nat.lt_of_lt_of_le (by assumption) (by decide) | exact Int.natCast_nonneg _ | exact Int.ofNat_lt.mpr (lt4 (by assumption)) | exact dep (by assumption) (by decide) | omega) fun u t => r_sub fun u t => r_nmg U S rfl rfl (r_mul (by first | assumption | exact Nat.le_trans (by assumption) (by decide) | exact Nat.lt_of_lt_of_le (by assumption) (by decide) | exact Int.natCast_nonneg _ | exact Int.ofNat_lt.mpr (lt4 (by assumption)) | exact dep (by assumption) (by decide) | omega) (by first | assumption | exact Nat.le_trans (by assumption) (by decide) | exact Nat.lt_of_lt_of_le (by assumption) (by decide) | exact Int.natCast_nonneg _ | exact Int.ofNat_lt.mpr (lt4 (by assumption)) | exact dep (by assumption) (by decide) | omega) fun u t => r_nm S rfl mc (gt_int (wpAny_truthy_bool ?_)))))))))))) 
      rw [if_neg (by simp; omega)]
      refine wpAny_execs_nil ?_
      refine wpAny_execs_cons (wpAny_Assign_Name (r_t1 U S rfl rfl Boot.list (r_t3 U S rfl rfl Boot.range (r_nmg U S rfl rfl (wpAny_BinOp (r_nmg U S rfl rfl (wpAny_BinOp (r_b1 U S rfl rfl Boot.len (r_nm S rfl ma (r_lenS (by first | assumption | exact Nat.le_trans (by assumption) (by decide) | exact Nat.lt_of_lt_of_le (by assumption) (by decide) | exact Int.natCast_nonneg _ | exact Int.ofNat_lt.mpr (lt4 (by assumption)) | exact dep (by assumption) (by decide) | omega) fun u t => r_int fun u t => r_add fun u t => r_mul (by first | assumption | exact Nat.le_trans (by assumption) (by decide) | exact Nat.lt_of_lt_of_le (by assumption) (by decide) | exact Int.natCast_nonneg _ | exact Int.ofNat_lt.mpr (lt4 (by assumption)) | exact dep (by assumption) (by decide) | omega) (by first | assumption | exact Nat.le_trans (by assumption) (by decide) | exact Nat.lt_of_lt_of_le (by assumption) (by decide) | exact Int.natCast_nonneg _ | exact Int.ofNat_lt.mpr (lt4 (by assumption)) | exact dep (by assumption) (by decide) | omega) fun u t => r_nmg U S rfl rfl (r_listR hh S rfl (by first | assumption | exact Nat.le_trans (by assumption) (by decide) | exact Nat.lt_of_lt_of_le (by assumption) (by decide) | exact Int.natCast_nonneg _ | exact Int.ofNat_lt.mpr (lt4 (by assumption)) | exact dep (by assumption) (by decide) | omega) fun ra vs h₁ t₁ S hI => r_st S rfl fun h₁ t₁ S => ?_)))))))))))
      refine wpAny_execs_cons (wpAny_Assign_Name (r_int fun ur t => r_st S rfl fun h₁ t₁ S => ?_))
      refine wpAny_execs_cons (wpAny_For (r_t1 U S rfl rfl Boot.range (r_b1 U S rfl rfl Boot.len (r_nm S rfl mb_ (r_lenS (by first | assumption | exact Nat.le_trans (by assumption) (by decide) | exact Nat.lt_of_lt_of_le (by assumption) (by decide) | exact Int.natCast_nonneg _ | exact Int.ofNat_lt.mpr (lt4 (by assumption)) | exact dep (by assumption) (by decide) | omega) fun u t => r_range1 S rfl (by first | assumption | exact Nat.le_trans (by assumption) (by decide) | exact Nat.lt_of_lt_of_le (by assumption) (by decide) | exact Int.natCast_nonneg _ | exact Int.ofNat_lt.mpr (lt4 (by assumption)) | exact dep (by assumption) (by decide) | omega) fun I h₁ t₁ S hIt => ?_)))))
      refine loopW (Walks.range (by exact hh) I 0 1 b3.length) (fun a ha q => absurd (List.mem_singleton.mp ha) q) (fun i h q => rangeI q) S hIt
        (fun j _ m _ own => ∃ (vs : List Value) (ur : Tok), LvO own m ra a3 b3 ua ub u3 (levO a3 b3 j) vs ur)
        ⟨vs, ur, rfl, hI, ma, mb_, mc, rfl, rfl⟩ ?_ ?_
      · clear S hI ma mb_ mc
        rintro j v b₄ m₄ cm₄ own₄ h₄ t₄ oI Q' E' hj ⟨tk, rfl⟩ kb4 hJJ S hQ
        obtain ⟨vs, ur, rfl, hI, ma, mb_, mc, mrow, mres⟩ := hJJ
        have ej : (0 : Int) + (j : Int) * 1 = j := ei0 _
        rw [ej]
        have U := U.kp kb4
        have ij := lead_item b3 hyb' j hj
        refine r_as S rfl fun h₁ t₁ S => ?_
        refine wpAny_execs_cons (wpAny_Assign_Name (Subscript_ (r_nm S rfl mb_ (r_nm S rfl rfl (r_subS (by first | assumption | exact Nat.le_trans (by assumption) (by decide) | exact Nat.lt_of_lt_of_le (by assumption) (by decide) | exact Int.natCast_nonneg _ | exact Int.ofNat_lt.mpr (lt4 (by assumption)) | exact dep (by assumption) (by decide) | omega) (by first | assumption | exact Nat.le_trans (by assumption) (by decide) | exact Nat.lt_of_lt_of_le (by assumption) (by decide) | exact Int.natCast_nonneg _ | exact Int.ofNat_lt.mpr (lt4 (by assumption)) | exact dep (by assumption) (by decide) | omega) (by first | assumption | exact Nat.le_trans (by assumption) (by decide) | exact Nat.lt_of_lt_of_le (by assumption) (by decide) | exact Int.natCast_nonneg _ | exact Int.ofNat_lt.mpr (lt4 (by assumption)) | exact dep (by assumption) (by decide) | omega) fun ubc t => r_st S rfl fun h₁ t₁ S => ?_)))))
        refine wpAny_execs_cons (wpAny_Assign_two (wpAny_BinOp (r_nm S rfl rfl (r_nmg U S rfl rfl (r_mul (by first | assumption | exact Nat.le_trans (by assumption) (by decide) | exact Nat.lt_of_lt_of_le (by assumption) (by decide) | exact Int.natCast_nonneg _ | exact Int.ofNat_lt.mpr (lt4 (by assumption)) | exact dep (by assumption) (by decide) | omega) (by first | assumption | exact Nat.le_trans (by assumption) (by decide) | exact Nat.lt_of_lt_of_le (by assumption) (by decide) | exact Int.natCast_nonneg _ | exact Int.ofNat_lt.mpr (lt4 (by assumption)) | exact dep (by assumption) (by decide) | omega) fun ud t => r_as S rfl fun h₁ t₁ S => r_as S rfl fun h₁ t₁ S => ?_)))))
        refine wpAny_execs_cons (wpAny_Assign_Name (r_int fun um t => r_st S rfl fun h₁ t₁ S => ?_))
        refine wpAny_execs_cons (wpAny_For (r_t1 U S rfl rfl Boot.range (r_b1 U S rfl rfl Boot.len (r_nm S rfl ma (r_lenS (by first | assumption | exact Nat.le_trans (by assumption) (by decide) | exact Nat.lt_of_lt_of_le (by assumption) (by decide) | exact Int.natCast_nonneg _ | exact Int.ofNat_lt.mpr (lt4 (by assumption)) | exact dep (by assumption) (by decide) | omega) fun u t => r_range1 S rfl (by first | assumption | exact Nat.le_trans (by assumption) (by decide) | exact Nat.lt_of_lt_of_le (by assumption) (by decide) | exact Int.natCast_nonneg _ | exact Int.ofNat_lt.mpr (lt4 (by assumption)) | exact dep (by assumption) (by decide) | omega) fun I2 h₁ t₁ S hIt => ?_)))))
        refine loopW (Walks.range (by exact hh) I2 0 1 a3.length) (fun a ha q => absurd (List.mem_singleton.mp ha) q) (fun i h q => rangeI q) S hIt
          (fun i _ m _ own => ∃ (vs : List Value) (ur ud um : Tok), LvI own m I oI ra a3 b3 (Txt.item b3 (j : Int)) ua ub u3 ubc (inS (Txt.item b3 (j : Int)) a3 (levO a3 b3 j).1 ((j : Int) * 2) i) vs ur ud um)
          ⟨vs, ud, ud, um, rfl, hI, ma, mb_, mc, mrow, rfl, rfl, rfl, rfl⟩ ?_ ?_
        · clear S hI ma mb_ mc mrow mres
          rintro i v b₅ m₅ cm₅ own₅ h₅ t₅ oI2 Q' E' hi ⟨tk, rfl⟩ kb5 hJJ S hQ
          obtain ⟨vs, ur, ud, um, rfl, hI, ma, mb_, mc, mrow, mbc, mres, mdist, mmin⟩ := hJJ
          have ei : (0 : Int) + (i : Int) * 1 = i := ei0 _
          rw [ei]
          have U := U.kp kb5
          have ii := lead_item a3 hxa' i hi
          have hlen := inS_len (Txt.item b3 (j : Int)) a3 (levO a3 b3 j).1 ((j : Int) * 2) i
          rw [levO_len] at hlen
          generalize hst : inS (Txt.item b3 (j : Int)) a3 (levO a3 b3 j).1 ((j : Int) * 2) i = st at hI mres mdist mmin hlen
          refine r_as S rfl fun h₁ t₁ S => ?_
          refine wpAny_execs_cons (wpAny_Assign_Name (wpAny_BinOp (r_nm S rfl mdist (wpAny_Call_NameR (r_nmg U S rfl rfl (callWith_def rfl (r_arg2 (r_nm S rfl mbc (Subscript_ (r_nm S rfl ma (r_nm S rfl rfl (r_subS (by first | assumption | exact Nat.le_trans (by assumption) (by decide) | exact Nat.lt_of_lt_of_le (by assumption) (by decide) | exact Int.natCast_nonneg _ | exact Int.ofNat_lt.mpr (lt4 (by assumption)) | exact dep (by assumption) (by decide) | omega) (by first | assumption | exact Nat.le_trans (by assumption) (by decide) | exact Nat.lt_of_lt_of_le (by assumption) (by decide) | exact Int.natCast_nonneg _ | exact Int.ofNat_lt.mpr (lt4 (by assumption)) | exact dep (by assumption) (by decide) | omega) (by first | assumption | exact Nat.le_trans (by assumption) (by decide) | exact Nat.lt_of_lt_of_le (by assumption) (by decide) | exact Int.natCast_nonneg _ | exact Int.ofNat_lt.mpr (lt4 (by assumption)) | exact dep (by assumption) (by decide) | omega) fun u t => ⟨S.keep _ _ (U.kin _ _ rfl), wpAny_call (subst_ok (U.kp S.keep) (hr' _) (by first | assumption | exact Nat.le_trans (by assumption) (by decide) | exact Nat.lt_of_lt_of_le (by assumption) (by decide) | exact Int.natCast_nonneg _ | exact Int.ofNat_lt.mpr (lt4 (by assumption)) | exact dep (by assumption) (by decide) | omega) (by first | assumption | exact Nat.le_trans (by assumption) (by decide) | exact Nat.lt_of_lt_of_le (by assumption) (by decide) | exact Int.natCast_nonneg _ | exact Int.ofNat_lt.mpr (lt4 (by assumption)) | exact dep (by assumption) (by decide) | omega) fun h₁ t₁ us ks => ?_)⟩))))))))))))
          have S := S.kp ks
          refine r_add fun usub t => r_st S rfl fun h₁ t₁ S => ?_
          obtain ⟨oR, hoR, hPR⟩ := S.at (i := 2) rfl
          have vlen : vs.length = a3.length := by rw [hI.length]; exact hlen
          obtain ⟨ug, hg⟩ := ints_get i hI (by first | assumption | exact Nat.le_trans (by assumption) (by decide) | exact Nat.lt_of_lt_of_le (by assumption) (by decide) | exact Int.natCast_nonneg _ | exact Int.ofNat_lt.mpr (lt4 (by assumption)) | exact dep (by assumption) (by decide) | omega)
          refine wpAny_execs_cons (wpAny_Assign_Name (Subscript_ (r_nm S rfl mrow (r_nm S rfl rfl (r_subL (isL_list hoR hPR) (by first | assumption | exact Nat.le_trans (by assumption) (by decide) | exact Nat.lt_of_lt_of_le (by assumption) (by decide) | exact Int.natCast_nonneg _ | exact Int.ofNat_lt.mpr (lt4 (by assumption)) | exact dep (by assumption) (by decide) | omega) (by first | assumption | exact Nat.le_trans (by assumption) (by decide) | exact Nat.lt_of_lt_of_le (by assumption) (by decide) | exact Int.natCast_nonneg _ | exact Int.ofNat_lt.mpr (lt4 (by assumption)) | exact dep (by assumption) (by decide) | omega) (by simpa using hg) (r_st S rfl fun h₁ t₁ S => ?_))))))
          refine wpAny_execs_cons (wpAny_Assign_Name (wpAny_BinOp (r_b2 U S rfl rfl Boot.min (r_nm S rfl mres (r_nm S rfl rfl (r_min2 hh S fun u h₁ t₁ S => r_nmg U S rfl rfl (r_add fun u t => r_st S rfl fun h₁ t₁ S => ?_)))))))
          refine wpAny_execs_cons (wpAny_Assign_Name (r_b2 U S rfl rfl Boot.min (r_nm S rfl rfl (r_nm S rfl rfl (r_min2 hh S fun ur' h₁ t₁ S => r_st S rfl fun h₁ t₁ S => ?_)))))
          refine wpAny_execs_cons (wpAny_Assign_Subscript (r_nm S rfl rfl (r_nm S rfl mrow (r_nm S rfl rfl (r_setL (j := 2) S rfl (by first | assumption | exact Nat.le_trans (by assumption) (by decide) | exact Nat.lt_of_lt_of_le (by assumption) (by decide) | exact Int.natCast_nonneg _ | exact Int.ofNat_lt.mpr (lt4 (by assumption)) | exact dep (by assumption) (by decide) | omega) (by first | assumption | exact Nat.le_trans (by assumption) (by decide) | exact Nat.lt_of_lt_of_le (by assumption) (by decide) | exact Int.natCast_nonneg _ | exact Int.ofNat_lt.mpr (lt4 (by assumption)) | exact dep (by assumption) (by decide) | omega) (by first | assumption | exact Nat.le_trans (by assumption) (by decide) | exact Nat.lt_of_lt_of_le (by assumption) (by decide) | exact Int.natCast_nonneg _ | exact Int.ofNat_lt.mpr (lt4 (by assumption)) | exact dep (by assumption) (by decide) | omega) fun h₁ S => ?_)))))
          have hI' : IntsAre _ (inF (Txt.item b3 (j : Int)) a3 st i).1 := ints_set i _ ur' hI
          have einS := inS_succ (Txt.item b3 (j : Int)) a3 (levO a3 b3 j).1 ((j : Int) * 2) i
          rw [hst] at einS
          refine wpAny_execs_cons (wpAny_If (wpAny_isTrue_Compare1 (r_nm S rfl rfl (r_nm S rfl mmin (lt_int (wpAny_truthy_bool ?_))))))
          show (if decide ((inF (Txt.item b3 (j : Int)) a3 st i).2.1 < st.2.2.2) = true then _ else _)
          by_cases hlt : (inF (Txt.item b3 (j : Int)) a3 st i).2.1 < st.2.2.2
          · have e4 : (inF (Txt.item b3 (j : Int)) a3 st i).2.2.2 = (inF (Txt.item b3 (j : Int)) a3 st i).2.1 := if_pos hlt
            rw [if_pos (decide_eq_true hlt)]
            refine wpAny_execs_cons (wpAny_Assign_Name (r_nm S rfl rfl (r_st S rfl fun h₁ t₁ S => wpAny_execs_nil (wpAny_execs_nil (hQ _ _ _ _ _ _ (Kp.refl _) S ⟨_, ur', ug, ur', rfl, ?_, ma, mb_, mc, mrow, mbc, ?_, ?_, ?_⟩)))))
            · rw [einS]; exact hI'
            · rw [einS]; rfl
            · rw [einS]; rfl
            · rw [einS, e4]; rfl
          · have e4 : (inF (Txt.item b3 (j : Int)) a3 st i).2.2.2 = st.2.2.2 := if_neg hlt
            rw [if_neg (by rw [decide_eq_true_eq]; exact hlt)]
            refine wpAny_execs_nil (wpAny_execs_nil (hQ _ _ _ _ _ _ (Kp.refl _) S ⟨_, ur', ug, um, rfl, ?_, ma, mb_, mc, mrow, mbc, ?_, ?_, ?_⟩))
            · rw [einS]; exact hI'
            · rw [einS]; rfl
            · rw [einS]; rfl
            · rw [einS, e4]; exact mmin
        · clear S hI ma mb_ mc mrow mres
          rintro b₅ m₅ cm₅ own₅ h₅ t₅ kb5 ⟨vs, ur, ud, um, rfl, hI, ma, mb_, mc, mrow, mbc, mres, mdist, mmin⟩ S
          have hm4 := lead_min a3 hxa' b3 hyb' h0 h01 j hj
          refine wpAny_execs_cons (wpAny_If (wpAny_isTrue_Compare1 (r_nm S rfl mmin (r_nm S rfl mc (gt_int (wpAny_truthy_bool ?_))))))
          rw [if_neg (by rw [decide_eq_true_eq]; exact Int.not_lt.mpr hm4)]
          refine wpAny_execs_nil (wpAny_execs_nil (hQ _ _ _ _ _ _ kb5 S ⟨vs, ur, rfl, ?_, ma, mb_, mc, mrow, ?_⟩))
          · rw [levO_succ]; exact hI
          · rw [levO_succ]; exact mres
      · clear S hI ma mb_ mc
        rintro b₄ m₄ cm₄ own₄ h₄ t₄ kb4 ⟨vs, ur, rfl, hI, ma, mb_, mc, mrow, mres⟩ S
        exact wpAny_execs_cons (wpAny_Return_some (r_nm S rfl mres (k _ _ _ ((kb.trans kb4).trans S.keep))))
end Mine

open PySem PySem.W PyProof.Rows PySem.Calls
set_option Elab.async false
set_option linter.unusedVariables false
set_option maxRecDepth 100000
namespace Mine
variable {prog : Program} {w : World} {A : Around} {E : Value → Shared → Prop} {mg mb : Str → Option Value}
variable {b h : Heap} {env : Env} {wc : List (Str × Addr)} {m cm : Str → Option Value} {own : Own} {g : Array GenState} {d : Drawn} {t : Nat} {os : OsState}
variable {R : Result → Shared → Prop}

theorem fl_owner : Manifest.owners.lookup (String.ofList ['r', 'e', 't', 'l', 'i', 'f'].reverse) = some Manifest.sig_filter := by kernel_rfl
theorem fl_next : Slot "filter" "__next__" "filter.__next__" :=
  .of (owner := "filter") (n := "__next__") (by rw [typeLookup_type, builtinLookup_eq_fast]; kernel_rfl) (by decide +kernel) (by decide +kernel) (by decide +kernel) (by first | exact .inl (by decide +kernel) | exact .inr (by decide +kernel)) (by rw [isSubtype_type]; kernel_rfl)
theorem fl_iter : Slot "filter" "__iter__" "filter.__iter__" :=
  .of (owner := "filter") (n := "__iter__") (by rw [typeLookup_type, builtinLookup_eq_fast]; kernel_rfl) (by decide +kernel) (by decide +kernel) (by decide +kernel) (by first | exact .inl (by decide +kernel) | exact .inr (by decide +kernel)) (by rw [isSubtype_type]; kernel_rfl)
theorem fl_init : Slot "filter" "__init__" "object.__init__" :=
  .of (owner := "object") (n := "__init__") (by rw [typeLookup_type, builtinLookup_eq_fast]; kernel_rfl) (by decide +kernel) (by decide +kernel) (by decide +kernel) (by first | exact .inl (by decide +kernel) | exact .inr (by decide +kernel)) (by rw [isSubtype_type]; kernel_rfl)
theorem fl_eiter : entryFor table "filter.__iter__" = some Builtin.«dict_keyiterator.__iter__» := entryFor_alias (id' := "dict_keyiterator.__iter__") (by kernel_rfl) (by first | rfl | decide +kernel) (by decide +kernel) (by kernel_rfl)
theorem fl_enext : entryFor table "filter.__next__" = some Builtin.«filter.__next__» := entryFor_of_tree (by kernel_rfl)
theorem fl_enew : entryFor table "filter.__new__" = some Builtin.«filter.__new__» := entryFor_of_tree (by kernel_rfl)
theorem fl_aiter (a : Value) : argsOk "filter.__iter__" ⟨[a], []⟩ := by
  unfold argsOk; rw [signature?_of (id := "filter.__iter__") (n := ['_', '_', 'r', 'e', 't', 'i', '_', '_']) (o := ['r', 'e', 't', 'l', 'i', 'f']) (by kernel_rfl) fl_owner]; kernel_rfl
theorem fl_anext (a : Value) : argsOk "filter.__next__" ⟨[a], []⟩ := by
  unfold argsOk; rw [signature?_of (id := "filter.__next__") (n := ['_', '_', 't', 'x', 'e', 'n', '_', '_']) (o := ['r', 'e', 't', 'l', 'i', 'f']) (by kernel_rfl) fl_owner]; kernel_rfl
theorem fl_mro : mroOf (.type "filter") = pure [.type "filter", .type "object"] := by rw [mroOf_type]; kernel_rfl
theorem fl_lnew : typeLookup (.type "filter") "__new__" = pure (some (.builtin "filter.__new__")) := by rw [typeLookup_type, builtinLookup_eq_fast]; kernel_rfl
theorem fl_called : TypeCalled "filter" "filter.__new__" "object.__init__" :=
  ⟨by decide +kernel, by decide +kernel, ⟨_, _, fl_mro⟩, madeBy_type fl_mro fl_lnew (by decide +kernel), by decide +kernel, by rw [isSubtype_type]; kernel_rfl, fl_init⟩
theorem fl_tcall (a c : Value) : checkTypeCall "filter" ⟨[a, c], []⟩ = pure () := by kernel_rfl
theorem fl_ncall (a c : Value) : checkBuiltinCall "filter.__new__" ⟨[.type "filter", a, c], []⟩ = pure () := by kernel_rfl
theorem fl_sub : isSubtype (.type "filter") (.type "filter") = pure true := by rw [isSubtype_type]; kernel_rfl
end Mine

open PySem PySem.W PyProof.Rows PySem.Calls
set_option Elab.async false
set_option linter.unusedVariables false
set_option maxRecDepth 100000
namespace Mine
variable {prog : Program} {w : World} {A : Around} {E : Value → Shared → Prop} {mg mb : Str → Option Value}
variable {b h : Heap} {env : Env} {wc : List (Str × Addr)} {m cm : Str → Option Value} {own : Own} {g : Array GenState} {d : Drawn} {t : Nat} {os : OsState}
variable {R : Result → Shared → Prop} {s : Shared}

def vitObj (d : Addr) (i n ep : Nat) : Obj := { cls := .type "dict_valueiterator", data := .fields #[.ref d, .int i 0, .int n 0, .int ep 0] }
def viewObj (d : Addr) : Obj := { cls := .type "dict_values", data := .fields #[.ref d] }
def filtObj (I : Addr) : Obj := { cls := .type "filter", data := .fields #[.none, .ref I] }

theorem iter_vals {v d : Addr} {o : Obj} {es : Array DictEntry} {ep : Nat} {Q : Value → Shared → Prop} (hov : s.heap.get? v = some (viewObj d)) (ho : s.heap.get? d = some o) (hdat : o.data = .dict es ep)
    (hQ : Q (.ref s.heap.objs.size) { s with heap := s.heap.push (vitObj d 0 es.size ep) }) : wpAny (model prog w) A (pyIter (.ref v)) Q E s := by
  have hv : s.heap.IsValuesView v d := ⟨_, hov, rfl, rfl⟩
  refine wpAny_pyIter_slot hv.typeIs F.slot_dict_values_iter (wpAny_call_entry F.slot_dict_values_iter hv.typeIs F.entry_dict_values_iter ?_ (F.args_dict_values_iter_1 _))
  unfold Builtin.«dict_values.__iter__»
  refine wpAny_bind (wpAny_pure (wpAny_bind ?_))
  unfold Builtin.Dict_items.dictOf
  refine wpAny_bind (wpAny_field hov rfl (x := .ref d) rfl (wpAny_pure (wpAny_bind ?_)))
  unfold Builtin.Dict_items.newIterator
  refine wpAny_bind (wpAny_dictEntries ho hdat (wpAny_bind (wpAny_dictEpoch ho hdat ?_)))
  have hown : Builtin.Dict_items.ownsTuple "dict_valueiterator" = false := by decide
  simp only [hown, Bool.false_eq_true, if_false]
  refine wpAny_newObj_type (wpAny_pure ⟨_, rfl, "dict_valueiterator", _, ⟨_, Heap.get?_push_size _ rfl, rfl⟩, F.slot_dict_valueiterator_next.lookup, ?_⟩)
  simpa [rawInt, vitObj] using hQ

theorem fl_new (v d : Addr) (o : Obj) (es : Array DictEntry) (ep : Nat) (hdat : o.data = .dict es ep) : Meets (Builtin.«filter.__new__» ⟨[.type "filter", .none, .ref v], []⟩) (fun _ R s => s.heap.get? v = some (viewObj d) ∧ s.heap.get? d = some o ∧
      R (.ok (.ret (.ref (s.heap.push (vitObj d 0 es.size ep)).objs.size))) { s with heap := (s.heap.push (vitObj d 0 es.size ep)).push (filtObj s.heap.objs.size) }) :=
  .of_wp fun prog w A R s h => by
    obtain ⟨hp, g, dd, tk, os⟩ := s
    obtain ⟨hv, hd, h⟩ := h
    have hsub := fl_sub
    wp_walk using iter_vals hv hd hdat
    exact ⟨_, rfl, h⟩

theorem call_filter {v d : Addr} {o : Obj} {es : Array DictEntry} {ep : Nat} {Q : Value → Shared → Prop} (hov : s.heap.get? v = some (viewObj d)) (ho : s.heap.get? d = some o) (hdat : o.data = .dict es ep)
    (h : Q (.ref (s.heap.push (vitObj d 0 es.size ep)).objs.size) { s with heap := (s.heap.push (vitObj d 0 es.size ep)).push (filtObj s.heap.objs.size) }) :
    wpAny (model prog w) A (call (.type "filter") [.none, .ref v]) Q E s := by
  refine callType_new fl_called (by decide) (fl_tcall _ _) (fl_ncall _ _) (fun obj => F.args_object_init_3 obj _ _) fl_enew (fl_new v d o es ep hdat) ⟨hov, ho, ⟨_, Heap.get?_push_size _ rfl, rfl⟩, h⟩

/-- the next value of a dict, by the iterator's own method -/
theorem vnext_item {it d : Addr} {i ep : Nat} {od : Obj} {es : Array DictEntry} {Q : Option Value → Shared → Prop} (hit : s.heap.get? it = some (vitObj d i es.size ep)) (hod : s.heap.get? d = some od) (hdd : od.data = .dict es ep) (hi : i < es.size)
    (hQ : ∀ h', h'.get? it = some (vitObj d (i + 1) es.size ep) → Heap.SameBut it s.heap h' → Q (some es[i].val) { s with heap := h' }) : wpAny (model prog w) A (callSpecial? (.ref it) "__next__") Q E s := by
  have hT : s.TypeIs (.ref it) "dict_valueiterator" := ⟨_, hit, rfl⟩
  refine wpAny_callSpecial?_slot (name := Str.ofString "__next__") hT F.slot_dict_valueiterator_next (wpAny_call_entry F.slot_dict_valueiterator_next hT F.entry_dict_valueiterator_next ?_ (F.args_dict_valueiterator_next_1 _))
  refine wpAny_bind (wpAny_pure (wpAny_bind (wpAny_bind (wpAny_bind (wpAny_typeNameOfWhole_valiter hT (wpAny_pure (wpAny_bind (wpAny_fieldsOf hit rfl ?_))))))))
  have hown : Builtin.Dict_items.ownsTuple "dict_valueiterator" = false := by decide
  simp only [hown, Bool.false_eq_true, if_false]
  show wpAny _ _ (if (Value.ref d == Value.none) = true then _ else _) _ _ s
  rw [if_neg (show ¬ ((Value.ref d == Value.none) = true) from Bool.false_ne_true)]
  refine wpAny_bind (wpAny_pure (wpAny_bind (wpAny_dictEntries hod hdd ?_)))
  rw [if_neg (by simp)]
  refine wpAny_bind (wpAny_pure (wpAny_bind (wpAny_dictEpoch hod hdd ?_)))
  rw [if_neg (by simp)]
  refine wpAny_pure ?_
  simp only [show ¬ ((i : Int) < 0) from by omega, if_false, Int.toNat_natCast, Array.getElem?_eq_getElem hi]
  refine wpAny_bind (wpAny_bind (wpAny_typeNameOfWhole_valiter hT (wpAny_pure (wpAny_bind (wpAny_isOneOf_valiter hT ?_)))))
  show wpAny _ _ (setField (.ref it) 1 (rawInt ((i : Int) + 1)) >>= _) _ _ s
  refine wpAny_bind (wpAny_setField hit rfl (by simp) ?_)
  have hit' : (s.heap.update it (Obj.mapFields (·.setIfInBounds 1 (rawInt ((i : Int) + 1))))).get? it = some (vitObj d (i + 1) es.size ep) := Heap.get?_update_self _ hit rfl
  have hT' : ({ s with heap := s.heap.update it (Obj.mapFields (·.setIfInBounds 1 (rawInt ((i : Int) + 1)))) } : Shared).TypeIs (.ref it) "dict_valueiterator" := ⟨_, hit', rfl⟩
  refine wpAny_bind (wpAny_holding (wpAny_bind (wpAny_isOneOf_valiter hT' (wpAny_bind (wpAny_isOneOf_valiter hT' ?_)))))
  show wpAny _ _ (pure es[i].val) _ _ _
  exact wpAny_pure (wpAny_pure ⟨_, rfl, hQ _ hit' (Heap.SameBut.update ..)⟩)

theorem vnext_end {it d : Addr} {ep : Nat} {od : Obj} {es : Array DictEntry} {Q : Option Value → Shared → Prop} (hh : A.handled = none) (hit : s.heap.get? it = some (vitObj d es.size es.size ep)) (hod : s.heap.get? d = some od) (hdd : od.data = .dict es ep)
    (hQ : ∀ e h', Heap.ExtBut it s.heap h' → ({ s with heap := h' } : Shared).TypeIs e "StopIteration" → E e { s with heap := h' }) : wpAny (model prog w) A (callSpecial? (.ref it) "__next__") Q E s := by
  have hT : s.TypeIs (.ref it) "dict_valueiterator" := ⟨_, hit, rfl⟩
  refine wpAny_callSpecial?_slot (name := Str.ofString "__next__") hT F.slot_dict_valueiterator_next (wpAny_call_entry F.slot_dict_valueiterator_next hT F.entry_dict_valueiterator_next ?_ (F.args_dict_valueiterator_next_1 _))
  refine wpAny_bind (wpAny_pure (wpAny_bind (wpAny_bind (wpAny_bind (wpAny_typeNameOfWhole_valiter hT (wpAny_pure (wpAny_bind (wpAny_fieldsOf hit rfl ?_))))))))
  have hown : Builtin.Dict_items.ownsTuple "dict_valueiterator" = false := by decide
  simp only [hown, Bool.false_eq_true, if_false]
  show wpAny _ _ (if (Value.ref d == Value.none) = true then _ else _) _ _ s
  rw [if_neg (show ¬ ((Value.ref d == Value.none) = true) from Bool.false_ne_true)]
  refine wpAny_bind (wpAny_pure (wpAny_bind (wpAny_dictEntries hod hdd ?_)))
  rw [if_neg (by simp)]
  refine wpAny_bind (wpAny_pure (wpAny_bind (wpAny_dictEpoch hod hdd ?_)))
  rw [if_neg (by simp)]
  refine wpAny_pure ?_
  simp only [show ¬ ((es.size : Int) < 0) from by omega, if_false, Int.toNat_natCast, Array.getElem?_eq_none (Nat.le_refl es.size)]
  refine wpAny_bind (wpAny_bind (wpAny_typeNameOfWhole_valiter hT (wpAny_pure ?_)))
  show wpAny _ _ (setField (.ref it) 0 .none >>= _) _ _ s
  refine wpAny_bind (wpAny_setField hit rfl (by simp) ?_)
  show wpAny _ _ (newExc (.type "StopIteration") [] >>= _) _ _ _
  refine wpAny_bind ?_
  simp only [newExc, newTuple]
  refine wpAny_bind (wpAny_newObj_type ?_ (by size_fits))
  refine wpAny_bind (m := firstArgMember _ _) (wpAny_of_eq (a := Value.none) (by first | rfl | (simp only [firstArgMember]; rfl)) ?_)
  refine wpAny_newObj_type ?_ (by size_fits)
  simp only [raiseNew]
  refine wpAny_bind (wpAny_handled ?_)
  rw [show A.in1.handled = none from hh]
  refine wpAny_bind (wpAny_pure (wpAny_throw ?_))
  refine hQ _ _ (((Heap.SameBut.update ..).extBut.push _).push _) ?_
  exact ⟨_, Heap.get?_push_size _ rfl, rfl⟩

def nn (v : Value) : Bool := match v with | .none => false | _ => true
def cntN (vals : List Value) (i : Nat) : Nat := ((vals.take i).filter nn).length
theorem cntN_none {vals : List Value} {i : Nat} {v : Value} (hv : vals[i]? = some v) (hn : nn v = false) : cntN vals (i + 1) = cntN vals i := by
  unfold cntN; rw [take_snoc hv, List.filter_append]; simp [hn]
theorem cntN_some {vals : List Value} {i : Nat} {v : Value} (hv : vals[i]? = some v) (hn : nn v = true) : cntN vals (i + 1) = cntN vals i + 1 ∧ (vals.filter nn)[cntN vals i]? = some v := by
  unfold cntN
  refine ⟨by rw [take_snoc hv, List.filter_append]; simp [hn], ?_⟩
  obtain ⟨hi, rfl⟩ := List.getElem?_eq_some_iff.mp hv
  have e : vals = vals.take i ++ vals[i] :: vals.drop (i + 1) := by rw [← List.drop_eq_getElem_cons hi, List.take_append_drop]
  have e2 : vals.filter nn = (vals.take i).filter nn ++ vals[i] :: (vals.drop (i + 1)).filter nn := by
    conv => lhs; rw [e]
    rw [List.filter_append, List.filter_cons, if_pos hn]
  rw [e2, List.getElem?_append_right (Nat.le_refl _)]; simp
def OkV (v : Value) : Prop := v = .none ∨ ∃ n u, v = .int n u ∧ 0 < n
theorem truth_ok {v : Value} {Q : Bool → Shared → Prop} (hv : OkV v) (q : ∀ tk, Q (nn v) { s with toks := tk }) : wpAny (model prog w) A (truthy v) Q E s := by
  rcases hv with rfl | ⟨n, u, rfl, hn⟩
  · exact PyProof.Rows.truthy_none (q _)
  · refine truthy_int ?_
    have := q s.toks
    rw [show (n != 0) = true by simp; omega]
    exact this

theorem nk0 {n i k : Nat} (h : n - i = k + 1) : i < n ∧ n - (i + 1) = k ∧ i + 1 ≤ n := by omega
theorem filt_code {f it d : Addr} {od : Obj} {es : Array DictEntry} {ep : Nat} (hh : A.handled = none) (hdd : od.data = .dict es ep) (hok : ∀ e ∈ es, OkV e.val) (hfi : f ≠ it) (hdi : d ≠ it) :
    ∀ (k i : Nat) (s : Shared), es.size - i = k → i ≤ es.size → s.heap.get? f = some (filtObj it) → s.heap.get? it = some (vitObj d i es.size ep) → s.heap.get? d = some od →
    (∀ v j h' tk, ((es.toList.map (·.val)).filter nn)[cntN (es.toList.map (·.val)) i]? = some v → j ≤ es.size → cntN (es.toList.map (·.val)) j = cntN (es.toList.map (·.val)) i + 1 → h'.get? it = some (vitObj d j es.size ep) → Heap.ExtBut it s.heap h' → R (.ok (.ret v)) { s with heap := h', toks := tk }) →
    (cntN (es.toList.map (·.val)) i = ((es.toList.map (·.val)).filter nn).length → ∀ e h' tk, Heap.ExtBut it s.heap h' → ({ s with heap := h', toks := tk } : Shared).TypeIs e "StopIteration" → R (.error e) { s with heap := h', toks := tk }) →
    codeAny (model prog w) A (.builtin "filter.__next__" ⟨[.ref f], []⟩) R s := by
  intro k
  induction k with
  | zero =>
    intro i s hk hi hf hit hd hitem hend
    have hin : i = es.size := by omega
    subst hin
    refine codeAny_builtin fl_enext ?_
    rw [Around.under_plainId fl_next.plain _]
    unfold Builtin.«filter.__next__»
    refine wpAny_bind (wpAny_pure ?_)
    refine wpAny_bind (wpAny_field hf rfl (x := .none) rfl ?_)
    refine wpAny_bind (wpAny_field hf rfl (x := .ref it) rfl ?_)
    refine wpAny_bind (vnext_end hh hit hd hdd fun e h' hx hT => hend ?_ e h' _ hx hT)
    unfold cntN
    rw [List.take_of_length_le (by simp)]
  | succ k ih =>
    intro i s hk hi hf hit hd hitem hend
    obtain ⟨hlt, hk2, hk3⟩ := nk0 hk
    refine codeAny_builtin fl_enext ?_
    rw [Around.under_plainId fl_next.plain _]
    unfold Builtin.«filter.__next__»
    refine wpAny_bind (wpAny_pure ?_)
    refine wpAny_bind (wpAny_field hf rfl (x := .none) rfl ?_)
    refine wpAny_bind (wpAny_field hf rfl (x := .ref it) rfl ?_)
    refine wpAny_bind (vnext_item hit hd hdd hlt fun h' hit' hs => ?_)
    have hv : (es.toList.map (·.val))[i]? = some es[i].val := by simp [hlt]
    refine wpAny_bind (wpAny_holding ?_)
    rw [if_pos (by rfl)]
    refine wpAny_bind (wpAny_rule ?_)
    refine truth_ok (hok _ (Array.getElem_mem hlt)) fun tk => ?_
    cases hn : nn es[i].val with
    | true =>
      obtain ⟨h1, h2⟩ := cntN_some hv hn
      exact wpAny_pure (hitem _ (i + 1) h' tk h2 hlt h1 hit' hs.extBut)
    | false =>
      have h1 := cntN_none hv hn
      refine wpAny_pure ⟨plainId_quiet fl_next.plain _, ih (i + 1) _ hk2 hk3 (hs.extBut _ _ hfi hf) hit' (hs.extBut _ _ hdi hd) ?_ ?_⟩
      · intro v j h'' tk' hv' hj hc hit'' hx
        exact hitem v j h'' tk' (h1 ▸ hv') hj (h1 ▸ hc) hit'' fun x o hxx e => hx x o hxx (hs.extBut x o hxx e)
      · intro hc e h'' tk' hx hT
        exact hend (h1 ▸ hc) e h'' tk' (fun x o hxx e => hx x o hxx (hs.extBut x o hxx e)) hT
end Mine

open PySem PySem.W PyProof.Rows PySem.Calls
set_option Elab.async false
set_option linter.unusedVariables false
set_option maxRecDepth 100000
namespace Mine
variable {prog : Program} {w : World} {A : Around} {E : Value → Shared → Prop} {mg mb : Str → Option Value}
variable {b h : Heap} {env : Env} {wc : List (Str × Addr)} {m cm : Str → Option Value} {own : Own} {g : Array GenState} {d : Drawn} {t : Nat} {os : OsState}
variable {R : Result → Shared → Prop} {s : Shared}

def FSt (f it dd : Addr) (od : Obj) (es : Array DictEntry) (ep : Nat) (i : Nat) (h : Heap) : Prop :=
  h.get? f = some (filtObj it) ∧ h.get? dd = some od ∧ ∃ j, j ≤ es.size ∧ cntN (es.toList.map (·.val)) j = i ∧ h.get? it = some (vitObj dd j es.size ep)

theorem filtW {f it dd : Addr} {od : Obj} {es : Array DictEntry} {ep : Nat} (hh : A.handled = none) (hdd : od.data = .dict es ep) (hok : ∀ e ∈ es, OkV e.val) (hfi : f ≠ it) (hdi : dd ≠ it) :
    Walks prog w A f [f, it, dd] [it] ((es.toList.map (·.val)).filter nn).length (fun i v => ((es.toList.map (·.val)).filter nn)[i]? = some v) (FSt f it dd od es ep) where
  sub := fun b hb => by rw [List.mem_singleton.mp hb]; simp
  frame := fun i h h' st hk => by
    obtain ⟨hf, hd, j, hj, hc, hit⟩ := st
    exact ⟨hk f (by simp) _ hf, hk dd (by simp) _ hd, j, hj, hc, hk it (by simp) _ hit⟩
  item := fun i s Q E hi st hQ => by
    obtain ⟨hf, hd, j, hj, rfl, hit⟩ := st
    have hT : s.TypeIs (.ref f) "filter" := ⟨_, hf, rfl⟩
    unfold pyNext
    refine wpAny_bind (wpAny_attempt (wpAny_callSpecial?_slot (name := Str.ofString "__next__") hT fl_next (wpAny_call (codeAny_call_builtin_code (plainId_quiet fl_next.plain _) (fl_next.check _ _ _ _ _ _ _ _ hT (fl_anext _) (filt_code hh hdd hok hfi hdi _ j s rfl hj hf hit hd ?_ ?_))))))
    · intro v j' h' tk hv hj' hc hit' hx
      refine wpAny_pure (hQ v h' tk hv ⟨hx f _ hfi hf, hx dd _ hdi hd, j', hj', hc, hit'⟩ fun b o hb e => hx b o (by simpa using hb) e)
    · intro hc
      exact absurd hi (by omega)
  done := fun s Q E st hQ => by
    obtain ⟨hf, hd, j, hj, hcn, hit⟩ := st
    have hT : s.TypeIs (.ref f) "filter" := ⟨_, hf, rfl⟩
    unfold pyNext
    refine wpAny_bind (wpAny_attempt (wpAny_callSpecial?_slot (name := Str.ofString "__next__") hT fl_next (wpAny_call (codeAny_call_builtin_code (plainId_quiet fl_next.plain _) (fl_next.check _ _ _ _ _ _ _ _ hT (fl_anext _) (filt_code hh hdd hok hfi hdi _ j s rfl hj hf hit hd ?_ ?_))))))
    · intro v j' h' tk hv
      rw [hcn, List.getElem?_eq_none (Nat.le_refl _)] at hv; cases hv
    · intro _ e h' tk hx hT'
      refine wpAny_bind (wpAny_isInstance (T := "StopIteration") (b := true) hT' isSubtype_stop ?_)
      exact wpAny_pure (hQ h' tk fun b o hb e => hx b o (by simpa using hb) e)
  self := fun i s Q E st hQ => by
    obtain ⟨hf, hd, j, hj, hcn, hit⟩ := st
    have hT : s.TypeIs (.ref f) "filter" := ⟨_, hf, rfl⟩
    refine wpAny_pyIter_slot hT fl_iter (wpAny_call_entry fl_iter hT fl_eiter ?_ (fl_aiter _))
    show wpAny _ _ (ret (.ref f)) _ _ s
    exact wpAny_pure ⟨_, rfl, "filter", _, hT, fl_next.lookup, hQ⟩

def mxV (val : Nat → Int) : Nat → Int
  | 0 => val 0
  | k + 1 => max (mxV val k) (val (k + 1))
theorem nk {n i k : Nat} (h : n - i = k + 1) : i < n ∧ n - (i + 1) = k ∧ i + 1 ≤ n := by omega
theorem mx_loop {kw : List (Str × Value)} {I B : Addr} {fp wr : List Addr} {n : Nat} {P : Nat → Value → Prop} {Ws : Nat → Heap → Prop} (W : Walks prog w A.in1 I fp wr n P Ws) (val : Nat → Int) (hval : ∀ i v, P i v → ∃ u, v = .int (val i) u) (hB : B ∉ fp) :
    ∀ (k i : Nat) (s : Shared) (xs : List Value) (c : Nat), n - i = k → i ≤ n → 0 < n → Ws i s.heap → (i = 0 ∧ xs = [] ∨ ∃ j u, i = j + 1 ∧ xs = [.int (mxV val j) u, .int (mxV val j) u]) → s.heap.get? B = some { cls := .type "list", data := .seq xs.toArray c } →
      (∀ u h' tk, (∀ a o, a ∉ wr → a ≠ B → s.heap.get? a = some o → h'.get? a = some o) → R (.ok (.ret (.int (mxV val (n - 1)) u))) { s with heap := h', toks := tk }) →
      codeAny (model prog w) A (.builtin "max.loop" ⟨[.ref I, .none, .ref B], kw⟩) R s := by
  have hBw : B ∉ wr := fun q => hB (W.sub _ q)
  have hname : (toString "max" ++ toString ".loop" : String) = "max.loop" := by decide
  intro k
  induction k with
  | zero =>
    intro i s xs c hk hi hn hst hxs hS hR
    have hin : i = n := by omega
    subst hin
    rcases hxs with ⟨rfl, -⟩ | ⟨j, u, rfl, rfl⟩
    · exact absurd hn (Nat.lt_irrefl 0)
    refine codeAny_builtin F.entry_max_loop ?_
    rw [Around.under_plainId F.plain_max_loop _]
    show wpAny _ A.in1 (seqItems? (.ref B) >>= _) _ _ s
    refine wpAny_bind (wpAny_seqItems hS rfl ?_)
    show wpAny _ A.in1 (tryCatch (pyNext (.ref I)) _ >>= _) _ _ s
    refine wpAny_bind (wpAny_tryCatch (W.done s _ _ hst fun h' tk hk' => ?_))
    have hS' := hk' B _ hBw hS
    show wpAny _ A.in1 (updateSeq B (fun _ => #[]) >>= _) _ _ _
    refine wpAny_bind (wpAny_updateSeq hS' rfl (wpAny_bind (wpAny_letGo (wpAny_pure ?_))))
    exact hR u _ tk fun a o haw haB e => (Heap.get?_update_other _ _ (Ne.symm haB)).trans (hk' a o haw e)
  | succ k ih =>
    intro i s xs c hk hi hn hst hxs hS hR
    obtain ⟨n1, n2, n3⟩ := nk hk
    refine codeAny_builtin F.entry_max_loop ?_
    rw [Around.under_plainId F.plain_max_loop _]
    show wpAny _ A.in1 (seqItems? (.ref B) >>= _) _ _ s
    refine wpAny_bind (wpAny_seqItems hS rfl ?_)
    show wpAny _ A.in1 (tryCatch (pyNext (.ref I)) _ >>= _) _ _ s
    refine wpAny_bind (wpAny_tryCatch (W.item i s _ _ n1 hst fun v h' tk hP hst' hk' => ?_))
    obtain ⟨u', rfl⟩ := hval i v hP
    have hS' := hk' B _ hBw hS
    rcases hxs with ⟨rfl, rfl⟩ | ⟨j, u, rfl, rfl⟩
    · show wpAny _ A.in1 (updateSeq B (fun _ => #[.int (val 0) u', .int (val 0) u']) >>= _) _ _ _
      refine wpAny_bind (wpAny_updateSeq hS' rfl ?_)
      rw [hname]
      refine wpAny_pure ⟨plainId_quiet F.plain_max_loop _, ih 1 _ _ _ n2 n3 hn (W.frame _ _ _ hst' fun a ha o e => ?_) (.inr ⟨0, u', rfl, rfl⟩) (Heap.get?_update_self _ hS' rfl) fun u h'' tk'' hk'' => ?_⟩
      · exact (Heap.get?_update_other _ _ (fun q : B = a => hB (q ▸ ha))).trans e
      · exact hR u h'' tk'' fun a o haw haB e => hk'' a o haw haB ((Heap.get?_update_other _ _ (Ne.symm haB)).trans (hk' a o haw e))
    · show wpAny _ A.in1 (tryCatch (holding [.int (val (j + 1)) u', .int (val (j + 1)) u'] (richCompare .Gt (.int (val (j + 1)) u') (.int (mxV val j) u) >>= _)) _ >>= _) _ _ _
      refine wpAny_bind (wpAny_tryCatch (wpAny_holding (wpAny_bind (richCompare_gives (op := .Gt) (typeIs_int _ _ u') (typeIs_int _ _ u) F.slot_int_gt F.entry_int_gt (F.args_int_gt_2 _ _) (gives_int_gt _ _ u' u) (fun x => nomatch x) ?_))))
      refine wpAny_bind (wpAny_holding (wpAny_truthy_bool ?_))
      refine wpAny_bind (wpAny_letGo (wpAny_pure ?_))
      by_cases hb : val (j + 1) > mxV val j
      · rw [if_pos (by simpa using hb)]
        refine wpAny_bind (wpAny_updateSeq hS' rfl (wpAny_bind (wpAny_letGo ?_)))
        rw [hname]
        have e : mxV val (j + 1) = val (j + 1) := Int.max_eq_right (Int.le_of_lt hb)
        refine wpAny_pure ⟨plainId_quiet F.plain_max_loop _, ih (j + 2) _ _ _ n2 n3 hn (W.frame _ _ _ hst' fun a ha o e => ?_) (.inr ⟨j + 1, u', rfl, by rw [e]⟩) (Heap.get?_update_self _ hS' rfl) fun u h'' tk'' hk'' => ?_⟩
        · exact (Heap.get?_update_other _ _ (fun q : B = a => hB (q ▸ ha))).trans e
        · exact hR u h'' tk'' fun a o haw haB e => hk'' a o haw haB ((Heap.get?_update_other _ _ (Ne.symm haB)).trans (hk' a o haw e))
      · rw [if_neg (by simpa using hb)]
        refine wpAny_bind (wpAny_letGo ?_)
        rw [hname]
        have e : mxV val (j + 1) = mxV val j := Int.max_eq_left (Int.not_lt.mp hb)
        refine wpAny_pure ⟨plainId_quiet F.plain_max_loop _, ih (j + 2) _ _ _ n2 n3 hn hst' (.inr ⟨j + 1, u, rfl, by rw [e]⟩) hS' fun u h'' tk'' hk'' => ?_⟩
        exact hR u h'' tk'' fun a o haw haB e => hk'' a o haw haB (hk' a o haw e)
end Mine

open PySem PySem.W PyProof.Rows PySem.Calls
set_option Elab.async false
set_option linter.unusedVariables false
set_option maxRecDepth 100000
namespace Mine
variable {prog : Program} {w : World} {A : Around} {E : Value → Shared → Prop} {mg mb : Str → Option Value}
variable {b h : Heap} {env : Env} {wc : List (Str × Addr)} {m cm : Str → Option Value} {own : Own} {g : Array GenState} {d : Drawn} {t : Nat} {os : OsState}
variable {R : Result → Shared → Prop}

/-- the values of a table of costs: none, or ten to the cost and three -/
inductive OptsAre : List Value → List (Option Nat) → Prop
  | nil : OptsAre [] []
  | no {vs cs} : OptsAre vs cs → OptsAre (.none :: vs) (none :: cs)
  | yes {vs cs} (c : Nat) (u : Tok) : OptsAre vs cs → OptsAre (.int (10 ^ (c + 3)) u :: vs) (some c :: cs)
theorem ten_pos (c : Nat) : (0 : Int) < 10 ^ c := Int.pow_pos (by decide)
theorem OptsAre.ok : ∀ {vs : List Value} {cs : List (Option Nat)}, OptsAre vs cs → ∀ v ∈ vs, OkV v
  | _, _, .nil, v, hv => nomatch hv
  | _, _, .no r, v, hv => by
    rcases List.mem_cons.mp hv with rfl | hv
    · exact .inl rfl
    · exact r.ok v hv
  | _, _, .yes c u r, v, hv => by
    rcases List.mem_cons.mp hv with rfl | hv
    · exact .inr ⟨_, u, rfl, ten_pos _⟩
    · exact r.ok v hv
theorem OptsAre.filt : ∀ {vs : List Value} {cs : List (Option Nat)}, OptsAre vs cs → IntsAre (vs.filter nn) ((cs.filterMap id).map fun c => (10 : Int) ^ (c + 3))
  | _, _, .nil => .nil
  | _, _, .no r => r.filt
  | _, _, .yes c u r => .cons _ u r.filt
def mxN (c : Nat → Nat) : Nat → Nat
  | 0 => c 0
  | k + 1 => max (mxN c k) (c (k + 1))
theorem mxN_le {c : Nat → Nat} {B : Nat} : ∀ k, (∀ i, i ≤ k → c i ≤ B) → mxN c k ≤ B
  | 0, h => h 0 (Nat.le_refl _)
  | k + 1, h => by
    have := mxN_le k fun i hi => h i (by first | assumption | exact Nat.le_trans (by assumption) (by decide) | exact Nat.lt_of_lt_of_le (by assumption) (by decide) | exact Int.natCast_nonneg _ | exact Int.ofNat_lt.mpr (lt4 (by assumption)) | exact dep (by assumption) (by decide) | omega)
    have := h (k + 1) (Nat.le_refl _)
    simp only [mxN]; omega
theorem ten_mono {a b : Nat} (h : a ≤ b) : (10 : Int) ^ (a + 3) ≤ 10 ^ (b + 3) := by
  have := Nat.pow_le_pow_right (n := 10) (by decide) (show a + 3 ≤ b + 3 by omega)
  exact_mod_cast this
theorem mx_ten (c : Nat → Nat) : ∀ k, mxV (fun i => (10 : Int) ^ (c i + 3)) k = 10 ^ (mxN c k + 3)
  | 0 => rfl
  | k + 1 => by
    have ih := mx_ten c k
    simp only [mxV, mxN, ih]
    rcases Nat.le_total (mxN c k) (c (k + 1)) with h | h
    · have := ten_mono h; rw [Nat.max_eq_right h]; omega
    · have := ten_mono h; rw [Nat.max_eq_left h]; omega
theorem mxV_congr {f f' : Nat → Int} : ∀ k, (∀ i, i ≤ k → f i = f' i) → mxV f k = mxV f' k
  | 0, h => h 0 (Nat.le_refl _)
  | k + 1, h => by simp only [mxV]; rw [mxV_congr k fun i hi => h i (by first | assumption | exact Nat.le_trans (by assumption) (by decide) | exact Nat.lt_of_lt_of_le (by assumption) (by decide) | exact Int.natCast_nonneg _ | exact Int.ofNat_lt.mpr (lt4 (by assumption)) | exact dep (by assumption) (by decide) | omega), h (k + 1) (Nat.le_refl _)]
theorem ten_len : ∀ M, M ≤ 100 → (Str.ofString (toString ((10 : Int) ^ (M + 3)))).length = M + 4 := by
  have : ∀ M ∈ List.range 101, (Str.ofString (toString ((10 : Int) ^ (M + 3)))).length = M + 4 := by decide +kernel
  exact fun M h => this M (List.mem_range.mpr (by first | assumption | exact Nat.le_trans (by assumption) (by decide) | exact Nat.lt_of_lt_of_le (by assumption) (by decide) | exact Int.natCast_nonneg _ | exact Int.ofNat_lt.mpr (lt4 (by assumption)) | exact dep (by assumption) (by decide) | omega))
theorem ten_log : ∀ M, M ≤ 100 → ((10 : Int) ^ (M + 3)).natAbs.log2 < 1920 := by
  have : ∀ M ∈ List.range 101, ((10 : Int) ^ (M + 3)).natAbs.log2 < 1920 := by decide +kernel
  exact fun M h => this M (List.mem_range.mpr (by first | assumption | exact Nat.le_trans (by assumption) (by decide) | exact Nat.lt_of_lt_of_le (by assumption) (by decide) | exact Int.natCast_nonneg _ | exact Int.ofNat_lt.mpr (lt4 (by assumption)) | exact dep (by assumption) (by decide) | omega))

theorem call_values {dd : Addr} {od : Obj} {Q : Value → Shared → Prop} (S : St b env wc m cm own h) (ho : h.get? dd = some od) (hx : od.ExactDict) (hs : dd ≠ 1)
    (q : ∀ v b' h', Kp b b' → St b' env wc m cm own h' → b'.get? v = some (viewObj dd) → h.get? v = none → Q (.ref v) ⟨h', g, d, t, os⟩) : wpAny (model prog w) A (call (.builtin "dict.values") [.ref dd]) Q E ⟨h, g, d, t, os⟩ := by
  have hT : (⟨h, g, d, t, os⟩ : Shared).TypeIs (.ref dd) "dict" := ⟨od, ho, hx.1⟩
  refine wpAny_call_entry PySem.F.slot_dict_values hT PySem.F.entry_dict_values ?_ (PySem.F.args_dict_values_1 _)
  refine wpAny_bind ?_
  unfold Builtin.Dict.noArgs
  refine wpAny_bind (wpAny_notOrdered_dict hT ?_)
  show wpAny _ _ (pure dd) _ _ _
  refine wpAny_pure ?_
  show wpAny _ _ (Builtin.Dict.showsAll dd >>= _) _ _ _
  unfold Builtin.Dict.showsAll
  rw [if_neg (by simpa [sysModules] using hs)]
  refine wpAny_bind (wpAny_pure ?_)
  obtain ⟨b', k, S', hb⟩ := S.pushB (o := viewObj dd) rfl
  exact wpAny_bind (wpAny_newObj_type (wpAny_pure ⟨_, rfl, q _ b' _ k S' hb (size_none h)⟩))
theorem getm_values {dd : Addr} {od : Obj} {pl : Sem Bool} {Q : Value × List Value → Shared → Prop} (ho : h.get? dd = some od) (hx : od.ExactDict) (q : Q (.builtin "dict.values", [.ref dd]) ⟨h, g, d, t, os⟩) :
    wpAny (model prog w) A (getMethod (.ref dd) (Str.ofString "values") pl) Q E ⟨h, g, d, t, os⟩ :=
  getMethod_builtin (s := ⟨h, g, d, t, os⟩) ⟨od, ho, hx.1⟩ PySem.F.plainAttrs_dict PySem.F.slot_dict_values PySem.F.type_dict_values (fun a e => by cases e; exact ⟨od, ho, hx.2.1⟩) q
end Mine

open PySem PySem.W PyProof.Rows PySem.Calls
set_option Elab.async false
set_option linter.unusedVariables false
set_option maxRecDepth 100000
namespace Mine
variable {prog : Program} {w : World} {A : Around} {E : Value → Shared → Prop} {mg mb : Str → Option Value}
variable {b h : Heap} {env : Env} {wc : List (Str × Addr)} {m cm : Str → Option Value} {own : Own} {g : Array GenState} {d : Drawn} {t : Nat} {os : OsState}
variable {R : Result → Shared → Prop}

theorem max_args (a v : Value) : argsOk "max" ⟨[a], [(Str.ofString "default", v)]⟩ := by unfold argsOk; kernel_rfl
theorem call_tree {id : String} {B : Builtin} {args : List Value} {kw : List (Str × Value)} {s : Shared} {Q : Value → Shared → Prop} (hk : builtinKind id = none) (hp : plainId id = true) (hb : entryFor table id = some B) (ha : argsOk id ⟨args, kw⟩)
    (q : wpAny (model prog w) A.in1 (B ⟨args, kw⟩) (fun fin s' => match fin with
      | .done f => (match (Except.ok f : Result) with | .ok (.ret v) => Q v s' | .ok _ => False | .error e => E e s')
      | .again c' => c'.quiet = true ∧ codeAny (model prog w) A c' (fun r s' => match r with | .ok (.ret v) => Q v s' | .ok _ => False | .error e => E e s') s') E s) :
    wpAny (model prog w) A (call (.builtin id) args kw) Q E s := by
  refine wpAny_call (codeAny_call_builtin hp hb ?_)
  simp only [checkBuiltinCall, hk]
  cases hsig : Manifest.signature? id with
  | none => exact wpAny_pure q
  | some sig =>
    have ha' : Bind.checkArgs id sig ⟨args, kw⟩ = pure () := by simpa only [argsOk, hsig] using ha
    simp only [ha']
    exact wpAny_pure q

theorem opts_len : ∀ {vs : List Value} {cs : List (Option Nat)}, OptsAre vs cs → vs.length = cs.length
  | _, _, .nil => rfl
  | _, _, .no r => by simp [opts_len r]
  | _, _, .yes _ _ r => by simp [opts_len r]
/-- max(filter(None, d.values()), default=..) over a table of costs of which one is there -/
theorem r_maxF {dd : Addr} {od : Obj} {es : Array DictEntry} {ep : Nat} {cs : List (Option Nat)} {i : Int} {u : Tok} {Q : Value → Shared → Prop} (S : St b env wc m cm own h) (hh : A.handled = none) (ho : h.get? dd = some od) (hd : od.data = .dict es ep) (hv : OptsAre (es.toList.map (·.val)) cs)
    (hn : 0 < (cs.filterMap id).length) (q : ∀ u h' t', St b env wc m cm own h' → Q (.int (10 ^ (mxN (fun i => (cs.filterMap id).getD i 0) ((cs.filterMap id).length - 1) + 3)) u) ⟨h', g, d, t', os⟩) :
    wpAny (model prog w) A (call (.builtin "max") [.ref (h.push (vitObj dd 0 es.size ep)).objs.size] [(Str.ofString "default", .int i u)]) Q E ⟨(h.push (vitObj dd 0 es.size ep)).push (filtObj h.objs.size), g, d, t, os⟩ := by
  have hname : (toString "max" ++ toString ".loop" : String) = "max.loop" := by decide
  have hok : ∀ e ∈ es, OkV e.val := fun e he => hv.ok _ (List.mem_map.mpr ⟨e, by simpa using he, rfl⟩)
  have hlt := Heap.lt_size ho
  have hs1 : (h.push (vitObj dd 0 es.size ep)).objs.size = h.objs.size + 1 := Heap.size_push ..
  have hfi : (h.push (vitObj dd 0 es.size ep)).objs.size ≠ h.objs.size := by rw [hs1]; exact Nat.succ_ne_self _
  have hdi : dd ≠ h.objs.size := Nat.ne_of_lt hlt
  have W := filtW (prog := prog) (w := w) (A := A.in1) (f := (h.push (vitObj dd 0 es.size ep)).objs.size) (it := h.objs.size) (dd := dd) hh hd hok hfi hdi
  have hst : FSt (h.push (vitObj dd 0 es.size ep)).objs.size h.objs.size dd od es ep 0 ((h.push (vitObj dd 0 es.size ep)).push (filtObj h.objs.size)) :=
    ⟨Heap.get?_push_size _ rfl, Heap.get?_push_of_some _ (Heap.get?_push_of_some _ ho), 0, Nat.zero_le _, rfl, Heap.get?_push_of_some _ (Heap.get?_push_size _ rfl)⟩
  have hfl := hv.filt
  have hlen := hfl.length
  rw [List.length_map] at hlen
  refine call_tree PySem.F.kind_max PySem.F.plain_max PySem.F.entry_max (max_args _ _) ?_
  show wpAny _ A.in1 (Builtin.Builtins.bindParams "max" ["key", "default"] 0 ⟨[], [(Str.ofString "default", .int i u)]⟩ >>= _) _ _ _
  refine wpAny_bind (wpAny_of_eq (show Builtin.Builtins.bindParams "max" ["key", "default"] 0 ⟨[], [(Str.ofString "default", .int i u)]⟩ = pure [none, some (.int i u)] from rfl) ?_)
  refine wpAny_bind (wpAny_pure ?_)
  refine wpAny_bind (W.self 0 _ _ _ hst ?_)
  refine wpAny_bind (wpAny_newObj_type ?_)
  rw [hname]
  generalize hH : (h.push (vitObj dd 0 es.size ep)).push (filtObj h.objs.size) = H at hst ⊢
  have hHs : H.objs.size = h.objs.size + 2 := by rw [← hH, Heap.size_push, hs1]
  have hB : H.objs.size ∉ [(h.push (vitObj dd 0 es.size ep)).objs.size, h.objs.size, dd] := by
    rw [hHs, hs1]
    have e1 : h.objs.size + 2 ≠ h.objs.size + 1 := Nat.succ_ne_self _
    have e2 : h.objs.size + 2 ≠ h.objs.size := Nat.ne_of_gt (Nat.lt_add_of_pos_right (by decide))
    have e3 : h.objs.size + 2 ≠ dd := Nat.ne_of_gt (Nat.lt_of_lt_of_le hlt (Nat.le_add_right _ _))
    simp only [List.mem_cons, List.not_mem_nil, or_false, not_or]
    exact ⟨e1, e2, e3⟩
  refine wpAny_pure ⟨plainId_quiet PySem.F.plain_max_loop _, mx_loop W (fun i => (10 : Int) ^ ((cs.filterMap id).getD i 0 + 3)) (fun j v hP => ?_) hB _ 0 _ [] 0 rfl (Nat.zero_le _) (by first | assumption | exact Nat.le_trans (by assumption) (by decide) | exact Nat.lt_of_lt_of_le (by assumption) (by decide) | exact Int.natCast_nonneg _ | exact Int.ofNat_lt.mpr (lt4 (by assumption)) | exact dep (by assumption) (by decide) | omega) (W.frame _ _ _ hst fun a ha o e => Heap.get?_push_of_some _ e) (.inl ⟨rfl, rfl⟩) (Heap.get?_push_size _ rfl) fun u' h' tk hk => ?_⟩
  · obtain ⟨hj, -⟩ := List.getElem?_eq_some_iff.mp hP
    obtain ⟨u, hu⟩ := ints_get j hfl (by rw [List.length_map]; omega)
    rw [hu] at hP; cases hP
    refine ⟨u, ?_⟩
    congr 1
    have hj' : j < (cs.filterMap id).length := by omega
    simp [List.getD_eq_getElem?_getD, List.getElem?_eq_getElem hj']
  · rw [hlen, mx_ten]
    refine q u' h' tk (S.kp fun a o e => hk a o (fun e' => ?_) (fun e' => ?_) ?_)
    · rw [List.mem_singleton.mp e', size_none] at e; cases e
    · have h1 := Heap.lt_size e
      rw [e', hHs] at h1
      exact Nat.not_lt.mpr (Nat.le_add_right _ _) h1
    · exact Heap.get?_push_of_some _ (by rw [← hH]; exact Heap.get?_push_of_some _ (Heap.get?_push_of_some _ e))

theorem max_step (c : Nat) : max (3 : Int) ((c + 4 : Nat) : Int) = (c : Int) + 4 := by omega
set_option maxHeartbeats 2000000 in
theorem gw_ok {dd : Addr} {od : Obj} {es : Array DictEntry} {ep : Nat} {cs : List (Option Nat)} (U : Up w mg mb h) (hr : A.depth + 20 < recursionLimit) (hh : A.handled = none) (ho : h.get? dd = some od) (hx : od.ExactDict) (hd : od.data = .dict es ep) (hv : OptsAre (es.toList.map (·.val)) cs)
    (hdd : dd ≠ 1) (hn : 0 < (cs.filterMap id).length) (hb : ∀ c, some c ∈ cs → c ≤ 100)
    (k : ∀ h' t' u, Kp h h' → R (.ok (.ret (.int ((mxN (fun i => (cs.filterMap id).getD i 0) ((cs.filterMap id).length - 1) : Nat) + 4) u))) ⟨h', g, d, t', os⟩) :
    codeAny (model prog w) A (.call (.ref 28) ⟨[.ref dd], []⟩) R ⟨h, g, d, t, os⟩ := by
  refine call_of (binds := [(Str.ofString "linestarts", .ref dd)]) U (by first | assumption | exact Nat.le_trans (by assumption) (by decide) | exact Nat.lt_of_lt_of_le (by assumption) (by decide) | exact Int.natCast_nonneg _ | exact Int.ofNat_lt.mpr (lt4 (by assumption)) | exact dep (by assumption) (by decide) | omega) rfl rfl rfl rfl rfl rfl rfl rfl fun h₁ t₁ S => ?_
  have hM : mxN (fun i => (cs.filterMap id).getD i 0) ((cs.filterMap id).length - 1) ≤ 100 := mxN_le _ fun i hi => by
    rw [List.getD_eq_getElem?_getD]
    cases e : (cs.filterMap id)[i]? with
    | none => exact Nat.zero_le _
    | some c =>
      have := List.mem_of_getElem? e
      rw [List.mem_filterMap] at this
      obtain ⟨oc, h1, h2⟩ := this
      exact hb c (by simpa [show oc = some c from h2] using h1)
  refine wpAny_execs_cons (wpAny_If (wpAny_isTrue_Compare1 (r_nm S rfl rfl (r_none (is_ref_none (wpAny_truthy_bool ?_))))))
  rw [if_neg (by decide)]
  refine wpAny_execs_nil ?_
  refine wpAny_execs_cons (wpAny_Assign_Name (wpAny_Call_Name_kw (r_nmb U S rfl rfl Boot.max (callWith_kw (r_arg1 (r_t2 U S rfl rfl Boot.filter (r_none (MethodCall_ (r_nm S rfl rfl (getm_values (S.keep _ _ ho) hx (callWith_method0 (call_values S (S.keep _ _ ho) hx hdd fun v b' h' kb S hv' _ => call_filter (S.keep _ _ hv') (S.keep _ _ (kb _ _ ho)) hd (kws_cons (wpAny_UnaryOp (r_int fun u t => neg_int (kws_nil ?_))))))))))))))))
  refine r_maxF S hh (S.keep _ _ (kb _ _ ho)) hd hv hn fun um h₁ t₁ S => r_st S rfl fun h₁ t₁ S => ?_
  have U := U.kp kb
  have hpos := ten_pos (mxN (fun i => (cs.filterMap id).getD i 0) ((cs.filterMap id).length - 1) + 3)
  have hlen := ten_len _ hM
  have hlog := ten_log _ hM
  generalize mxN (fun i => (cs.filterMap id).getD i 0) ((cs.filterMap id).length - 1) = M at *
  generalize (10 : Int) ^ (M + 3) = T at *
  refine wpAny_execs_cons (wpAny_If (wpAny_isTrue_Compare1 (r_nm S rfl rfl (wpAny_UnaryOp (r_int fun u t => neg_int (eq_int (wpAny_truthy_bool ?_)))))))
  rw [if_neg (by simp; omega)]
  refine wpAny_execs_nil ?_
  refine wpAny_execs_cons (wpAny_Assign_Name (r_b2 U S rfl rfl Boot.max (r_int fun u t => r_b1 U S rfl rfl Boot.len (r_t1 U S rfl rfl Boot.str (r_nm S rfl rfl (P.str_of_int hlog (r_lenS (by first | assumption | exact Nat.le_trans (by assumption) (by decide) | exact Nat.lt_of_lt_of_le (by assumption) (by decide) | exact Int.natCast_nonneg _ | exact Int.ofNat_lt.mpr (lt4 (by assumption)) | exact dep (by assumption) (by decide) | omega) fun u t => r_max2 hh S fun uw h₁ t₁ S => r_st S rfl fun h₁ t₁ S => ?_)))))))
  rw [hlen, max_step] at S
  have e4 : (Str.ofString "  --").length = 4 := by decide +kernel
  refine wpAny_execs_cons (wpAny_If (isTrue_and (wpAny_isTrue_Compare1 (r_nm S rfl rfl (r_b1 U S rfl rfl Boot.len (r_nmg U S rfl rfl (r_lenS (x := Str.ofString "  --") (by rw [e4]; decide) fun u t => lt_int (wpAny_truthy_bool ?_))))))))
  rw [e4, if_neg (by simp; omega), if_neg (by simp)]
  refine wpAny_execs_nil ?_
  exact wpAny_execs_cons (wpAny_Return_some (r_nm S rfl rfl (k _ _ _ (kb.trans S.keep))))
end Mine

open PySem PySem.W PyProof.Rows PySem.Calls
set_option Elab.async false
set_option linter.unusedVariables false
set_option maxRecDepth 100000
namespace Mine
variable {prog : Program} {w : World} {A : Around} {E : Value → Shared → Prop} {mg mb : Str → Option Value}
variable {b h : Heap} {env : Env} {wc : List (Str × Addr)} {m cm : Str → Option Value} {own : Own} {g : Array GenState} {d : Drawn} {t : Nat} {os : OsState}
variable {R : Result → Shared → Prop}

theorem cellsFrom_acc : ∀ (names : List (Str × NameKind)) (n : Nat) (acc : List (Str × Addr)), cellsFrom n names acc = cellsFrom n names [] ++ acc
  | [], _, _ => rfl
  | (x, kd) :: r, n, acc => by
    unfold cellsFrom
    split
    · rw [cellsFrom_acc r (n + 1) ((x, n) :: acc), cellsFrom_acc r (n + 1) [(x, n)]]; simp
    · exact cellsFrom_acc r n acc
theorem newEnv_cells {scope : Scope} {globals : Addr} {cl : List (Str × Addr)} {qual : Str} {s : Shared} {Q : Env → Shared → Prop}
    (q : Q { scope, locals := s.heap.objs.size, globals, cells := cellsFrom (s.heap.objs.size + 1) scope.names cl, qual, func := none, code := env.code, frame := env.frame, builtins := env.builtins } { s with heap := pushCells (s.heap.push { cls := .type "dict", data := .dict #[] }) scope.names }) :
    wpAny (model prog w) A (newFunctionEnv scope globals cl [] qual none .none (some env)) Q E s := by
  simp only [newFunctionEnv, Option.isSome_some, if_true]
  refine wpAny_bind (wpAny_alloc ?_)
  refine wpAny_bind (wpAny_layCells _ (fun name kind cells => by cases hkc : kind == NameKind.cell <;> simp [hkc]) _ _ _ _ ?_)
  rw [show ({ s with heap := s.heap.push { cls := .type "dict", data := .dict #[] } } : Shared).heap.objs.size = s.heap.objs.size + 1 from Heap.size_push ..]
  refine wpAny_bind ?_
  rw [List.forIn_nil]
  exact wpAny_pure (wpAny_pure q)

section
variable {K : Type} [DecidableEq K]
def isD (knd : KeyKind prog w K) (kvs : List (K × Value)) (o : Obj) : Prop := o.IsDictOf knd kvs
def cmIn (ws : List (Str × Addr)) (cm : Str → Option Value) : Str → Option Value := fun n => if (ws.lookup n).isSome then none else cm n

inductive DSt {K : Type} [DecidableEq K] (knd : KeyKind prog w K) (bc : Heap) (cenv : Env) (ws : List (Str × Addr)) (cm : Str → Option Value) (I D : Addr) (n : Nat) (J : Nat → Heap → List (K × Value) → Prop) (Ws : Nat → Heap → Prop) (g : Array GenState) (d : Drawn) (os : OsState) (k : Nat) (s' : Shared) : Prop
  | mk (i : Nat) (b₁ : Heap) (m₁ cm₁ : Str → Option Value) (kvs : List (K × Value)) (h₁ : Heap) (t₁ : Nat) (PI' : Obj → Prop) (e : s' = ⟨h₁, g, d, t₁, os⟩) (hi : i ≤ n) (hk : k = n + 1 - i) (kb : Kp bc b₁) (hJ : J i b₁ kvs) (hyl : kvs.length ≤ i) (hcm : ∀ y, ws.lookup y = none → cm₁ y = cm y) (S : St b₁ cenv ws m₁ cm₁ [(I, PI'), (D, isD knd kvs)] h₁) (hs : Ws i h₁) : DSt knd bc cenv ws cm I D n J Ws g d os k s'
inductive DNx {K : Type} [DecidableEq K] (knd : KeyKind prog w K) (cenv : Env) (ws : List (Str × Addr)) (cm : Str → Option Value) (I : Addr) (oI : Obj) (D : Addr) (J : Heap → List (K × Value) → Prop) (b₁ : Heap) (kvs : List (K × Value)) (g : Array GenState) (d : Drawn) (os : OsState) (kv vv : Value) (s' : Shared) : Prop
  | mk (k : K) (b₂ : Heap) (m₂ cm₂ : Str → Option Value) (h₂ : Heap) (t₂ : Nat) (e : s' = ⟨h₂, g, d, t₂, os⟩) (hk : knd.is k kv = true) (kk : Kp b₁ b₂) (hcm : ∀ y, ws.lookup y = none → cm₂ y = cm y) (S : St b₂ cenv ws m₂ cm₂ [(I, fun o => o = oI), (D, isD knd kvs)] h₂) (hJ : J b₂ (stored kvs k vv)) : DNx knd cenv ws cm I oI D J b₁ kvs g d os kv vv s'
theorem compDW {kx vx iter : Expr} {x : Str} {px : Pos} {scope : Scope} {cl : List (Str × Addr)} {pos : Pos} {I : Addr} {PI : Obj → Prop} {fp : List Addr} {n : Nat} {P : Nat → Value → Prop} {Ws : Nat → Heap → Prop}
    {RR : Value → Addr → Result → Shared → Prop} (knd : KeyKind prog w K) (W : Walks prog w A I fp [I] n P Ws) (hfp : ∀ a ∈ fp, ∃ o, h.get? a = some o) (hI : ∀ i h, Ws i h → ∃ o, h.get? I = some o)
    (S : St b env wc m cm ((I, PI) :: own) h) (hst : Ws 0 h) (hcl : ∀ n c, cl.lookup n = some c → env.cells.lookup n = some c) (hsz : n ≤ sizeLine) (hone : ∃ a o, 1 ≤ a ∧ b.get? a = some o)
    (J : Heap → Nat → Heap → List (K × Value) → Prop) (h0 : ∀ bc, Kp b bc → St b env wc m cm own bc → J bc 0 bc [])
    (step : ∀ i v bc C D b₁ m₁ cm₁ kvs h₁ t₁ oI E' (Q' : Value → Value → Shared → Prop), i < n → P i v → Kp b bc → St b env wc m cm own bc → Kp bc b₁ → J bc i b₁ kvs → (∀ y, (cellsFrom (C + 1) scope.names []).lookup y = none → cm₁ y = cm y) →
      St b₁ (compEnvC scope (cellsFrom (C + 1) scope.names cl) C env) (cellsFrom (C + 1) scope.names []) m₁ cm₁ [(I, fun o => o = oI), (D, isD knd kvs)] h₁ →
      (∀ kv vv k b₂ m₂ cm₂ h₂ t₂, knd.is k kv = true → Kp b₁ b₂ → (∀ y, (cellsFrom (C + 1) scope.names []).lookup y = none → cm₂ y = cm y) →
          St b₂ (compEnvC scope (cellsFrom (C + 1) scope.names cl) C env) (cellsFrom (C + 1) scope.names []) m₂ cm₂ [(I, fun o => o = oI), (D, isD knd kvs)] h₂ → J bc (i + 1) b₂ (stored kvs k vv) → Q' kv vv ⟨h₂, g, d, t₂, os⟩) →
      wpAny (model prog w) A (assign (.Name x px) (compEnvC scope (cellsFrom (C + 1) scope.names cl) C env) v) (fun _ s₂ => wpAny (model prog w) A (eval kx (compEnvC scope (cellsFrom (C + 1) scope.names cl) C env)) (fun kv s₃ =>
        wpAny (model prog w) A (eval vx (compEnvC scope (cellsFrom (C + 1) scope.names cl) C env)) (Q' kv) E' s₃) E' s₂) E' ⟨h₁, g, d, t₁, os⟩)
    (fin : ∀ bc b₁ b' C D kvs h' t', J bc n b₁ kvs → Kp b bc → Kp b b' → (∀ a o, bc.get? a = none → b₁.get? a = some o → b'.get? a = some o) → bc.get? D = none → D ≠ 1 → (∃ o, b'.get? D = some o ∧ isD knd kvs o) →
      St b' env wc m cm ((C, isNs) :: own) h' → RR (.ref D) C (.ok .next) ⟨h', g, d, t', os⟩) :
    wpAny (model prog w) A newDict (fun acc s₃ => wpAny (model prog w) A (newFunctionEnv scope env.globals cl [] env.qual none .none (some env)) (fun cenv s₄ =>
      codeAny (model prog w) A (.compStart (.DictComp kx vx [⟨.Name x px, iter, [], 0⟩] scope pos) 0 (.ref I) acc { cenv with scope := relabel scope env }) (RR acc cenv.locals) s₄) E s₃) E ⟨h, g, d, t, os⟩ := by
  refine wpAny_newObj_type (newEnv_cells ?_)
  dsimp only
  generalize hH1 : h.push { cls := .type "dict", dict := none, data := .dict #[] } = H1
  have hC : H1.objs.size = h.objs.size + 1 := by rw [← hH1, Heap.size_push]
  have hI0 := S.lt I (St.mem (i := 0) rfl)
  have hDC : h.objs.size ≠ H1.objs.size := Nat.ne_of_lt (hC ▸ Nat.lt_succ_self _)
  have hIC : I ≠ H1.objs.size := Nat.ne_of_lt (hC ▸ Nat.lt_succ_of_lt hI0)
  have hID : I ≠ h.objs.size := Nat.ne_of_lt hI0
  have hD1 : h.objs.size ≠ 1 := by
    obtain ⟨a, o, ha, ho⟩ := hone
    exact Nat.ne_of_gt (Nat.lt_of_le_of_lt ha (Heap.lt_size (S.keep _ _ ho)))
  generalize hh₂ : pushCells (H1.push { cls := .type "dict", data := .dict #[] }) scope.names = h₂
  have kk : Kp (H1.push { cls := .type "dict", data := .dict #[] }) h₂ := fun a o e => hh₂ ▸ pushCells_keeps _ _ a o e
  have old : Kp h h₂ := fun a o e => kk _ _ (Heap.get?_push_of_some _ (hH1 ▸ Heap.get?_push_of_some _ e))
  have hD : h₂.get? h.objs.size = some { cls := .type "dict", dict := none, data := .dict #[] } := kk _ _ (Heap.get?_push_of_some _ (hH1 ▸ Heap.get?_push_size _ rfl))
  have hns₂ : h₂.Ns H1.objs.size (fun _ => none) := (Heap.Ns.new H1 (.type "dict")).keeps kk
  have cok := cellsFrom_ok scope.names (H1.push { cls := .type "dict", data := .dict #[] }) (H1.objs.size + 1) [] ⟨fun _ _ hm => (nomatch hm), List.Pairwise.nil⟩ (by rw [Heap.size_push]; exact Nat.le_refl _)
  rw [Heap.size_push, hh₂] at cok
  generalize hws : cellsFrom (H1.objs.size + 1) scope.names [] = ws at cok
  have hcs : cellsFrom (H1.objs.size + 1) scope.names cl = ws ++ cl := by rw [cellsFrom_acc, hws]
  obtain ⟨oI, hoI, _⟩ := S.at (i := 0) rfl
  have Sb := S.hideI
  have kbc : Kp b (hideAll h [I]) := Sb.keep
  have nbI : b.get? I = none := S.nb I (St.mem (i := 0) rfl)
  have kbh : Kp (hideAll h [I]) h := fun a o e => of_hideAll _ e
  have nbc : ∀ a, h.get? a = none → (hideAll h [I]).get? a = none := fun a ha => by
    cases q : (hideAll h [I]).get? a with
    | none => rfl
    | some o => rw [of_hideAll _ q] at ha; cases ha
  have noneGe : ∀ a, h.objs.size ≤ a → h.get? a = none := fun a ha => Heap.get?_none_of_le ha
  generalize hbc : hideAll h [I] = bc at Sb kbc kbh nbc
  have bcI : bc.get? I = none := by rw [← hbc]; exact hideAll_none _ (List.mem_cons_self ..)
  have hbcget : ∀ a o, a ≠ I → h.get? a = some o → bc.get? a = some o := fun a o ha e => by rw [← hbc]; exact hideAll_get _ e (by simpa using ha)
  have wsAbove : ∀ a ∈ ws.map (·.2), H1.objs.size + 1 ≤ a := fun a ha => by
    obtain ⟨⟨n, c⟩, hm, rfl⟩ := List.mem_map.mp ha
    exact (cok.empty n c hm).2
  have S₂ : St bc (compEnvC scope (ws ++ cl) H1.objs.size env) ws (fun _ => none) (cmIn ws cm) [(I, fun o => o = oI), (h.objs.size, isD knd [])] h₂ := by
    refine ⟨kbh.trans old, hns₂, fun n c e => ?_, fun a ha => ?_, fun p hp => ?_, ?_, fun a ha => ?_⟩
    · have e : (ws ++ cl).lookup n = some c := e
      rw [List.lookup_append] at e
      cases hw : ws.lookup n with
      | some c' =>
        rw [hw] at e; cases e
        exact ⟨by unfold cmIn; rw [hw]; exact (cok.empty n _ (mem_of_lookup hw)).1, .inl rfl⟩
      | none =>
        rw [hw] at e
        have e : cl.lookup n = some c := e
        obtain ⟨⟨o, ho, hd⟩, hw'⟩ := S.cell n c (hcl n c e)
        have hcI : c ≠ I := fun q => by
          subst q
          rcases hw' with hw' | ⟨o', hw'⟩
          · exact S.headOut (.tail _ (List.mem_append_left _ (lookup_mem hw')))
          · rw [nbI] at hw'; cases hw'
        exact ⟨⟨o, old _ _ ho, by unfold cmIn; rw [hw]; exact hd⟩, .inr ⟨o, hbcget c o hcI ho⟩⟩
    · obtain ⟨⟨n, c⟩, hm, rfl⟩ := List.mem_map.mp ha
      obtain ⟨o, ho, _⟩ := (cok.empty n c hm).1
      exact ⟨o, ho⟩
    · rcases List.mem_cons.mp hp with rfl | hp
      · exact ⟨oI, old _ _ hoI, rfl⟩
      · rw [List.mem_singleton.mp hp]
        exact ⟨_, hD, #[], 0, ⟨rfl, rfl, rfl⟩, rfl, fun e he => by simp at he, .nil, List.nodup_nil⟩
    · show (H1.objs.size :: (ws.map (·.2) ++ [I, h.objs.size])).Nodup
      rw [List.nodup_cons, List.nodup_append]
      refine ⟨fun q => ?_, List.pairwise_map.mpr cok.apart, ?_, fun a ha y hy => ?_⟩
      · rcases List.mem_append.mp q with q | q
        · exact absurd (wsAbove _ q) (Nat.not_succ_le_self _)
        · rcases List.mem_cons.mp q with q | q
          · exact hIC q.symm
          · exact hDC (List.mem_singleton.mp q).symm
      · simp [hID]
      · have := wsAbove a ha
        rcases List.mem_cons.mp hy with rfl | hy
        · exact Nat.ne_of_gt (Nat.lt_trans (hC ▸ Nat.lt_succ_of_lt hI0) this)
        · rw [List.mem_singleton.mp hy]
          exact Nat.ne_of_gt (Nat.lt_trans (hC ▸ Nat.lt_succ_self _) this)
    · have ha : a ∈ H1.objs.size :: (ws.map (·.2) ++ [I, h.objs.size]) := ha
      rcases List.mem_cons.mp ha with rfl | ha
      · exact nbc _ (noneGe _ (hC ▸ Nat.le_succ _))
      · rcases List.mem_append.mp ha with ha | ha
        · exact nbc _ (noneGe _ (Nat.le_trans (hC ▸ Nat.le_succ _) (Nat.le_of_succ_le (wsAbove _ ha))))
        · rcases List.mem_cons.mp ha with rfl | ha
          · exact bcI
          · rw [List.mem_singleton.mp ha]; exact nbc _ (noneGe _ (Nat.le_refl _))
  have hcm0 : ∀ y, ws.lookup y = none → cmIn ws cm y = cm y := fun y e => by unfold cmIn; rw [e]; rfl
  have hst₂ : Ws 0 h₂ := W.frame _ _ _ hst fun a ha o e => old a o e
  have loop : ∀ t₂, codeAny (model prog w) A (.compLoop (.DictComp kx vx [⟨.Name x px, iter, [], 0⟩] scope pos) 0 (.ref I) (.ref h.objs.size) (compEnvC scope (ws ++ cl) H1.objs.size env)) (RR (.ref h.objs.size) H1.objs.size) ⟨h₂, g, d, t₂, os⟩ := by
    intro t₂
    refine codeAny_compLoop_testsD (DSt knd bc (compEnvC scope (ws ++ cl) H1.objs.size env) ws cm I h.objs.size n (J bc) Ws g d os) ?_ (n + 1)
      ⟨0, bc, _, _, [], h₂, t₂, _, rfl, Nat.zero_le _, rfl, Kp.refl bc, h0 bc kbc Sb, Nat.zero_le _, hcm0, S₂, hst₂⟩
    rintro k s' ⟨i, b₁, m₁, cm₁, kvs, h₁, t₁, PI', rfl, hi, rfl, kb, hJ, hyl, hcm, S₁, hs₁⟩
    by_cases hlt : i < n
    · refine W.item i _ _ _ hlt hs₁ fun v h₂' t₂' hP hs₂ hk => ?_
      obtain ⟨oI', hoI'⟩ := hI _ _ hs₂
      have S₃ : St b₁ (compEnvC scope (ws ++ cl) H1.objs.size env) ws m₁ cm₁ [(I, fun o => o = oI'), (h.objs.size, isD knd kvs)] h₂' := S₁.setO (i := 0) (P' := fun o => o = oI') rfl (fun x o hx e => hk x o (by simpa using hx) e) hoI' rfl
      have keepI : ∀ {b₂ : Heap} {m₂ cm₂ : Str → Option Value} {h₄ : Heap} {P' : Obj → Prop}, Kp b₁ b₂ → St b₂ (compEnvC scope (ws ++ cl) H1.objs.size env) ws m₂ cm₂ [(I, fun o => o = oI'), (h.objs.size, P')] h₄ → Ws (i + 1) h₄ := fun kb' S' =>
        W.frame _ _ _ hs₂ fun a ha o e => by
          by_cases q : a = I
          · subst q
            obtain ⟨o', ho', rfl⟩ := S'.at (i := 0) rfl
            rw [hoI'] at e; cases e; exact ho'
          · obtain ⟨o', ho'⟩ := hfp a ha
            have hb1 := kb _ _ (hbcget a o' q ho')
            have e1 := S₃.keep _ _ hb1
            rw [e1] at e; cases e
            exact S'.keep _ _ (kb' _ _ hb1)
      have stp := step i v bc H1.objs.size h.objs.size b₁ m₁ cm₁ kvs h₂' t₂' oI' (notedBy (model prog w) A (compEnvC scope (ws ++ cl) H1.objs.size env) fun e s' => RR (.ref h.objs.size) H1.objs.size (.error e) s')
        (DNx knd (compEnvC scope (ws ++ cl) H1.objs.size env) ws cm I oI' h.objs.size (J bc (i + 1)) b₁ kvs g d os)
        hlt hP kbc Sb kb hJ (by rw [hws]; exact hcm) (by rw [hws, hcs]; exact S₃) (by rw [hws, hcs]; exact fun kv vv k b₂ m₂ cm₂ h₂ t₂ hk kk hc S j => ⟨k, b₂, m₂, cm₂, h₂, t₂, rfl, hk, kk, hc, S, j⟩)
      rw [hcs] at stp
      refine wpAny_mono stp (fun _ s₃ q => ?_) fun _ _ e => e
      rw [List.forIn_nil]
      refine wpAny_pure ?_
      refine ifT (wpAny_mono q (fun kv s₄ q => wpAny_mono q (fun vv s₅ q => ?_) fun _ _ e => e) fun _ _ e => e)
      obtain ⟨k, b₂, m₂, cm₂, h₄, t₄, rfl, hkey, kb₂, hcm₂, S₅, hJ'⟩ := q
      obtain ⟨oD, hoD, hPD⟩ := S₅.at (i := 1) rfl
      have hDo : h₄.DictOf knd h.objs.size kvs := Heap.dictOf_iff.mpr ⟨oD, hoD, hPD⟩
      refine wpAny_dictSet_pairs (hsz := Nat.le_trans hyl (Nat.le_trans hi hsz)) hkey hDo fun h₅ hd₅ hs₅ => ?_
      obtain ⟨oD', hoD', hPD'⟩ := Heap.dictOf_iff.mp hd₅
      have S₆ := S₅.setO (i := 1) (P' := isD knd (stored kvs k vv)) rfl hs₅.extBut hoD' hPD'
      have hsl := stored_length_le kvs k vv
      exact ⟨n + 1 - (i + 1), dec1 hlt, i + 1, b₂, m₂, cm₂, stored kvs k vv, h₅, _, _, rfl, hlt, rfl, kb.trans kb₂, hJ', Nat.le_trans hsl (Nat.succ_le_succ hyl), hcm₂, S₆, keepI kb₂ S₆⟩
    · have hin : i = n := Nat.le_antisymm hi (Nat.not_lt.mp hlt)
      subst hin
      refine W.done _ _ _ hs₁ fun h₃ t₃ hk => ?_
      have S₃ := S₁.drop1.off S₁.headOut (S₁.nb I (St.mem (i := 0) rfl)) (fun x o hx e => hk x o (by simpa using hx) e)
      obtain ⟨oD, hoD, hPD⟩ := S₃.at (i := 0) rfl
      have hCn : bc.get? H1.objs.size = none := nbc _ (noneGe _ (hC ▸ Nat.le_succ _))
      have hDn : bc.get? h.objs.size = none := nbc _ (noneGe _ (Nat.le_refl _))
      obtain ⟨b', kb', hb1, hb2, S'⟩ := Sb.compEnd kb S₃ hCn
      exact fin bc b₁ b' _ _ kvs h₃ t₃ hJ kbc kb' hb1 hDn hD1 ⟨oD, hb2 _ _ hDn hDC hoD, hPD⟩ S'
  show codeAny _ _ (.compStart _ _ _ _ (compEnvC scope (cellsFrom (H1.objs.size + 1) scope.names cl) H1.objs.size env)) _ _
  rw [hcs]
  exact codeAny_compStart_dict (loop _) (W.self 0 _ _ _ hst₂ (loop _))
end
end Mine

open PySem PySem.W PyProof.Rows PySem.Calls
set_option Elab.async false
set_option linter.unusedVariables false
set_option maxRecDepth 100000
namespace Mine
variable {prog : Program} {w : World} {A : Around} {E : Value → Shared → Prop} {mg mb : Str → Option Value}
variable {b h : Heap} {env : Env} {wc : List (Str × Addr)} {m cm : Str → Option Value} {own : Own} {g : Array GenState} {d : Drawn} {t : Nat} {os : OsState}
variable {R : Result → Shared → Prop}

def lawParts : Option (List Stmt × Scope) := match PySem.Challenge.pw_re0113_01.main.body.getLast? with
  | some (.FunctionDef _ _ body _ _ _ scope _ _ _) => some (body, scope)
  | _ => none
def lawBody : List Stmt := (lawParts.map (·.1)).getD []
def lawScope : Scope := (lawParts.map (·.2)).getD { kind := .function, names := [], isGenerator := false, isCoroutine := false }
def lawEnv (L a : Addr) (cd : Value) : Env := envOfC (Str.ofString "law") lawScope L a cd
def lawCells (L : Addr) : List (Str × Addr) := cellsFrom (L + 1) lawScope.names []

theorem start {h0 h1 : Heap} {L a : Addr} {cd : Value} {news cells : List (Addr × Obj)} (F : Fr h0 L h1 m) (hL : L = h0.objs.size) (N : News h0 L h1 news) (X : CellsAre cm (lawCells L) cells) (hc : ∀ p ∈ cells, p ∈ news) :
    St h0 (lawEnv L a cd) (lawCells L) m cm [] h1 := by
  have key : ∀ {cs : List (Str × Addr)} {cells : List (Addr × Obj)}, CellsAre cm cs cells → (∀ n c, (n, c) ∈ cs → ∃ o, (c, o) ∈ cells ∧ o.data = .cell (cm n)) := by
    intro cs cells X
    induction X with
    | nil => intro n c h; cases h
    | cons hd _ ih =>
      intro n c hm
      rcases List.mem_cons.mp hm with e | hm
      · cases e; exact ⟨_, List.mem_cons_self .., hd⟩
      · obtain ⟨o, h1, h2⟩ := ih n c hm; exact ⟨o, .tail _ h1, h2⟩
  have ok := cellsFrom_ok lawScope.names (h0.push { cls := .type "frame", data := .dict #[] }) (L + 1) [] ⟨fun _ _ hm => (nomatch hm), List.Pairwise.nil⟩ (by rw [Heap.size_push, hL]; exact Nat.le_refl _)
  rw [Heap.size_push, ← hL] at ok
  refine ⟨F.keep, F.ns, fun n c e => ?_, fun a ha => ?_, fun p hp => (nomatch hp), ?_, fun a ha => ?_⟩
  · obtain ⟨o, ho, hd⟩ := key X n c (mem_of_lookup e)
    exact ⟨⟨o, (N _ (hc _ ho)).1, hd⟩, .inl e⟩
  · obtain ⟨⟨n, c⟩, hm, rfl⟩ := List.mem_map.mp ha
    obtain ⟨o, ho, hd⟩ := key X n c hm
    exact ⟨o, (N _ (hc _ ho)).1⟩
  · rw [List.map_nil, List.append_nil, List.nodup_cons]
    refine ⟨fun q => ?_, List.pairwise_map.mpr ok.apart⟩
    obtain ⟨⟨n, c⟩, hm, e⟩ := List.mem_map.mp q
    have h1 := (ok.empty n c hm).2
    exact absurd e (Nat.ne_of_gt h1)
  · rw [List.map_nil, List.append_nil] at ha
    rcases List.mem_cons.mp ha with rfl | ha
    · exact Heap.get?_none_of_le (Nat.le_of_eq hL.symm)
    · obtain ⟨⟨n, c⟩, hm, rfl⟩ := List.mem_map.mp ha
      obtain ⟨o, ho, hd⟩ := key X n c hm
      exact (N _ (hc _ ho)).2.2
end Mine

open PySem PySem.W PyProof.Rows PySem.Calls
set_option Elab.async false
set_option linter.unusedVariables false
set_option maxRecDepth 100000
namespace Mine
variable {prog : Program} {w : World} {A : Around} {E : Value → Shared → Prop} {mg mb : Str → Option Value}
variable {b h : Heap} {env : Env} {wc : List (Str × Addr)} {m cm : Str → Option Value} {own : Own} {g : Array GenState} {d : Drawn} {t : Nat} {os : OsState}
variable {R : Result → Shared → Prop}

theorem r_ix {value slice : Expr} {a : Addr} {vs : List Value} {i : Nat} {v : Tok} {x : Value} {Q : Value → Shared → Prop} (hl : h.IsList a vs.toArray) (h1 : i < 1000) (hx : vs[i]? = some x) (q : Q x ⟨h, g, d, t, os⟩)
    (hs : subscripted slice false (.ref a) (.int (i : Int) v) = operate [.ref a, .int (i : Int) v] (getItem (.ref a) (.int (i : Int) v)) := by with_unfolding_all rfl) : wpAny (model prog w) A (subscriptTail value slice (.ref a) (.int (i : Int) v)) Q E ⟨h, g, d, t, os⟩ :=
  r_subL hl (by first | assumption | exact Nat.le_trans (by assumption) (by decide) | exact Nat.lt_of_lt_of_le (by assumption) (by decide) | exact Int.natCast_nonneg _ | exact Int.ofNat_lt.mpr (lt4 (by assumption)) | exact dep (by assumption) (by decide) | omega) (by first | assumption | exact Nat.le_trans (by assumption) (by decide) | exact Nat.lt_of_lt_of_le (by assumption) (by decide) | exact Int.natCast_nonneg _ | exact Int.ofNat_lt.mpr (lt4 (by assumption)) | exact dep (by assumption) (by decide) | omega) (by rw [Int.toNat_natCast, List.getElem?_toArray]; exact hx) q hs
theorem r_spc {x : Sem Value} {pos : Pos} {rest : List (Bool × Sem Value)} {s : Shared} {Q : List Value → Shared → Prop} (q : wpAny (model prog w) A x (fun v s₁ => wpAny (model prog w) A (spliced (backTo pos rest)) (fun vs s₂ => Q (v :: vs) s₂) E s₁) E s) :
    wpAny (model prog w) A (spliced (backTo pos ((false, x) :: rest))) Q E s := Calls.spliced_cons q
theorem r_spn {pos : Pos} {s : Shared} {Q : List Value → Shared → Prop} (q : Q [] s) : wpAny (model prog w) A (spliced (backTo pos [])) Q E s := Calls.spliced_nil q
/-- a list's iterator -/
theorem r_iterL {a : Addr} {vs : List Value} {Q : Value → Shared → Prop} (S : St b env wc m cm own h) (hl : h.IsList a vs.toArray)
    (q : ∀ I h', St b env wc m cm ((I, fun _ => True) :: own) h' → h'.IsListIter I a 0 → h'.IsList a vs.toArray → a ≠ I → Q (.ref I) ⟨h', g, d, t, os⟩) : wpAny (model prog w) A (pyIter (.ref a)) Q E ⟨h, g, d, t, os⟩ := by
  have hlt : a < h.objs.size := by obtain ⟨_, e, _⟩ := hl; exact Heap.lt_size e
  exact wpAny_pyIter_list (s := ⟨h, g, d, t, os⟩) hl (q _ _ (S.pushO rfl trivial) ⟨_, Heap.get?_push_size _ rfl, rfl, rfl⟩ (list_kp hl (Kp.push _ _)) (Nat.ne_of_lt hlt))
theorem r_sliceL {value slice : Expr} {l : Addr} {vs : List Value} {vl vu : Value} {lo hi : Option Int} {Q : Value → Shared → Prop} (S : St b env wc m cm own h) (hl : h.IsList l vs.toArray) (pl : IsPart vl lo) (pu : IsPart vu hi) (hz : vs.length ≤ 1000)
    (q : ∀ a h', St b env wc m cm own h' → Kp h h' → h'.get? a = some { cls := .type "list", data := .seq (slicePick vs.toArray lo hi none) } → Q (.ref a) ⟨h', g, d, t, os⟩)
    (hs : subscripted slice false (.ref l) (.ref h.objs.size) = operate [.ref h.objs.size, .ref l] (getItem (.ref l) (.ref h.objs.size)) := by with_unfolding_all rfl) :
    wpAny (model prog w) A (subscriptTail value slice (.ref l) (.ref h.objs.size)) Q E ⟨h.push { cls := .type "slice", data := .fields #[vl, vu, .none] }, g, d, t, os⟩ := by
  have kp : Kp h ((h.push { cls := .type "slice", data := .fields #[vl, vu, .none] }).push { cls := .type "list", data := .seq (slicePick vs.toArray lo hi none) }) := (Kp.push _ _).trans (Kp.push _ _)
  exact tail_any (s := ⟨h.push { cls := .type "slice", data := .fields #[vl, vu, .none] }, g, d, t, os⟩) (Heap.IsList.typeIs (hl.push _)) list_getitem_lookup
    (wpAny_getItem_list_slice (hl.push _) (Heap.IsSliceOf.new ..) pl pu .none (by simp) (q _ _ (S.kp kp) kp (Heap.get?_push_size _ rfl)) (by rw [List.size_toArray, sizeLine_eq]; omega)) hs

def StrsAre (vs : List Value) (xs : List Str) : Prop := vs.length = xs.length ∧ ∀ (i : Nat) (x : Str), xs[i]? = some x → ∃ u, vs[i]? = some (Value.str x u)
theorem StrsAre.nil : StrsAre [] [] := ⟨rfl, fun i x e => by simp at e⟩
theorem StrsAre.snoc {vs : List Value} {xs : List Str} {x : Str} {u : Tok} (S : StrsAre vs xs) : StrsAre (vs ++ [Value.str x u]) (xs ++ [x]) := by
  refine ⟨by simp [S.1], fun i y e => ?_⟩
  by_cases h : i < xs.length
  · rw [List.getElem?_append_left h] at e
    obtain ⟨u, hu⟩ := S.2 i y e
    exact ⟨u, by rw [List.getElem?_append_left (by rw [S.1]; exact h)]; exact hu⟩
  · rw [List.getElem?_append_right (by first | assumption | exact Nat.le_trans (by assumption) (by decide) | exact Nat.lt_of_lt_of_le (by assumption) (by decide) | exact Int.natCast_nonneg _ | exact Int.ofNat_lt.mpr (lt4 (by assumption)) | exact dep (by assumption) (by decide) | omega)] at e
    have hi : i - xs.length = 0 := by
      have := (List.getElem?_eq_some_iff.mp e).1
      simp at this; omega
    rw [hi] at e; cases e
    exact ⟨u, by rw [List.getElem?_append_right (by have := S.1; omega), S.1, hi]; rfl⟩
theorem StrsAre.of {vs : List Value} {xs : List Str} (S : StrsAre vs xs) {i : Nat} {v : Value} (e : vs[i]? = some v) : ∃ x u, xs[i]? = some x ∧ v = .str x u := by
  have hi := (List.getElem?_eq_some_iff.mp e).1
  have hi' : i < xs.length := by rw [← S.1]; exact hi
  obtain ⟨u, hu⟩ := S.2 i xs[i] (List.getElem?_eq_getElem hi')
  rw [e] at hu; cases hu
  exact ⟨_, u, List.getElem?_eq_getElem hi', rfl⟩
theorem StrsAre.append {vs vs' : List Value} {xs xs' : List Str} (S : StrsAre vs xs) (S' : StrsAre vs' xs') : StrsAre (vs ++ vs') (xs ++ xs') := by
  refine ⟨by simp [S.1, S'.1], fun i x e => ?_⟩
  by_cases h : i < xs.length
  · rw [List.getElem?_append_left h] at e
    rw [List.getElem?_append_left (by rw [S.1]; exact h)]
    exact S.2 i x e
  · rw [List.getElem?_append_right (by first | assumption | exact Nat.le_trans (by assumption) (by decide) | exact Nat.lt_of_lt_of_le (by assumption) (by decide) | exact Int.natCast_nonneg _ | exact Int.ofNat_lt.mpr (lt4 (by assumption)) | exact dep (by assumption) (by decide) | omega)] at e
    rw [List.getElem?_append_right (by rw [S.1]; omega), S.1]
    exact S'.2 _ x e
theorem ints_of_get {vs : List Value} {ns : List Int} (h : IntsAre vs ns) {i : Nat} {v : Value} (e : vs[i]? = some v) : ∃ u, ns[i]? = some (ns.getD i 0) ∧ v = .int (ns.getD i 0) u := by
  have hi := (List.getElem?_eq_some_iff.mp e).1
  rw [h.length] at hi
  obtain ⟨u, hu⟩ := ints_get i h hi
  rw [e] at hu; cases hu
  exact ⟨u, by simp [List.getD_eq_getElem?_getD, List.getElem?_eq_getElem hi], rfl⟩
theorem ints_snoc {vs : List Value} {ns : List Int} {n : Int} {u : Tok} (h : IntsAre vs ns) : IntsAre (vs ++ [Value.int n u]) (ns ++ [n]) := h.append (.cons n u .nil)
theorem listI {I ax : Addr} {i : Nat} (q : h.IsListIter I ax i) : ∃ o, h.get? I = some o := let ⟨o, ho, _⟩ := q; ⟨o, ho⟩
theorem listfp {I ax : Addr} {i : Nat} {items : Array Value} (q : h.IsListIter I ax i) (l : h.IsList ax items) : ∀ a ∈ [I, ax], ∃ o, h.get? a = some o := fun a ha => by
  rcases List.mem_cons.mp ha with rfl | ha
  · exact listI q
  · rw [List.mem_singleton.mp ha]; obtain ⟨o, ho, _⟩ := l; exact ⟨o, ho⟩
end Mine

open PySem PySem.W PyProof.Rows PySem.Calls
set_option Elab.async false
set_option linter.unusedVariables false
set_option maxRecDepth 100000
namespace Mine
variable {prog : Program} {w : World} {A : Around} {E : Value → Shared → Prop} {mg mb : Str → Option Value}
variable {b h : Heap} {env : Env} {wc : List (Str × Addr)} {m cm : Str → Option Value} {own : Own} {g : Array GenState} {d : Drawn} {t : Nat} {os : OsState}
variable {R : Result → Shared → Prop}

def leadA : List Str := [Str.ofString "", Str.ofString " ", Str.ofString "\t", Str.ofString "  ", Str.ofString " \t", Str.ofString "\t ", Str.ofString "\t\t"]
theorem leadA_eq : leadA = leadL := by decide +kernel
def drawsF (ns : List Int) : List Int := (ns.take 4 ++ ([16, 8, 25, 0] : List Int).drop ns.length).map fun x => x.fmod 49
theorem drawsF_len (ns : List Int) : (drawsF ns).length = 4 := by
  unfold drawsF; rw [List.length_map, List.length_append, List.length_take, List.length_drop]; simp; omega
theorem drawsF_rng (ns : List Int) : ∀ x ∈ drawsF ns, 0 ≤ x ∧ x < 49 := by
  intro x hx
  obtain ⟨y, -, rfl⟩ := List.mem_map.mp hx
  exact ⟨Int.fmod_nonneg_of_pos _ (by decide), Int.fmod_lt_of_pos _ (by decide)⟩

theorem r_newLk {vs : List Value} {Q : Value → Shared → Prop} (S : St b env wc m cm own h) (hl : vs.length ≤ 1000) (q : ∀ a h', St b env wc m cm own h' → Kp h h' → h'.get? a = some { cls := .type "list", data := .seq vs.toArray } → h.get? a = none → Q (.ref a) ⟨h', g, d, t, os⟩) :
    wpAny (model prog w) A (newList vs) Q E ⟨h, g, d, t, os⟩ :=
  wpAny_newList (q _ _ (S.kp (Kp.push _ _)) (Kp.push _ _) (Heap.get?_push_size _ rfl) (size_none h)) (by rw [sizeLine_eq]; omega)
theorem obj_list {a : Addr} {vs : List Value} {n : Nat} (e : h.get? a = some { cls := .type "list", data := .seq vs.toArray n }) : h.IsList a vs.toArray := isL_list e ⟨n, rfl⟩
theorem pick_obj {a : Addr} {vs : Array Value} {ws : List Value} (e : h.get? a = some { cls := .type "list", data := .seq vs }) (q : vs = ws.toArray) : h.get? a = some { cls := .type "list", data := .seq ws.toArray } := q ▸ e
/-- the first two statements: leads and draws -/
def FD (b : Heap) (m cm : Str → Option Value) (ds : List Int) : Prop :=
  (∃ a vs, m (Str.ofString "draws") = some (.ref a) ∧ b.PlainList a (List.toArray vs) ∧ IntsAre vs ds) ∧
  (∃ a vs, cm (Str.ofString "leads") = some (.ref a) ∧ b.get? a = some { cls := .type "tuple", data := .seq (List.toArray vs) } ∧ StrsAre vs leadA)

set_option maxHeartbeats 4000000 in
theorem segA1 {ns : List Int} {l L fa : Addr} {cd : Value} {vs : List Value} {Q : Flow → Shared → Prop} (U : Up w mg mb b) (S : St b (lawEnv L fa cd) (lawCells L) m cm [] h) (hm : m (Str.ofString "script") = some (.ref l)) (hl : b.IsList l vs.toArray) (hI : IntsAre vs ns) (hn : ns.length ≤ 63)
    (hh : A.handled = none) (hr : A.depth + 100 < recursionLimit)
    (q : ∀ b' m' cm' h' t', Kp b b' → St b' (lawEnv L fa cd) (lawCells L) m' cm' [] h' → FD b' m' cm' (drawsF ns) → wpAny (model prog w) A (execs (lawBody.drop 2) (lawEnv L fa cd)) Q E ⟨h', g, d, t', os⟩) :
    wpAny (model prog w) A (execs lawBody (lawEnv L fa cd)) Q E ⟨h, g, d, t, os⟩ := by
  have vl := hI.length
  refine wpAny_execs_cons (wpAny_Assign_Name (Tuple_ (r_spc (r_str fun u1 t => r_spc (r_str fun u2 t => r_spc (r_str fun u3 t => r_spc (r_str fun u4 t => r_spc (r_str fun u5 t => r_spc (r_str fun u6 t => r_spc (r_str fun u7 t => r_spn ?_))))))))))
  refine r_newT S (by simp) fun lt b1 h₁ kb1 S hlt _ => ?_
  refine r_stc S rfl rfl rfl fun h₁ S => ?_
  refine wpAny_execs_cons (r_alc rfl rfl rfl rfl ?_)
  refine wpAny_BinOp (r_upto (r_nm S rfl hm (r_int fun u8 t => r_sliceL S (list_kp (list_kp hl kb1) S.keep) .none (.int _ _) (by first | assumption | exact Nat.le_trans (by assumption) (by decide) | exact Nat.lt_of_lt_of_le (by assumption) (by decide) | exact Int.natCast_nonneg _ | exact Int.ofNat_lt.mpr (lt4 (by assumption)) | exact dep (by assumption) (by decide) | omega) fun a1 h₁ S k1 e1 => ?_)))
  have k4 : slicePick vs.toArray none (some (4 : Int)) none = (vs.take 4).toArray := slicePick_upto' vs.toArray 4
  have e1 := pick_obj e1 k4
  refine r_from (List_ (r_spc (r_int fun v1 t => r_spc (r_int fun v2 t => r_spc (r_int fun v3 t => r_spc (r_int fun v4 t => r_spn (r_newLk S (by simp) fun a2 h₂ S k2 e2 _ => ?_))))))) 
  have hl2 := list_kp (list_kp hl kb1) S.keep
  refine r_b1 (U.kp kb1) S rfl rfl Boot.len (r_nm S rfl hm (r_lenL hl2 (by first | assumption | exact Nat.le_trans (by assumption) (by decide) | exact Nat.lt_of_lt_of_le (by assumption) (by decide) | exact Int.natCast_nonneg _ | exact Int.ofNat_lt.mpr (lt4 (by assumption)) | exact dep (by assumption) (by decide) | omega) fun u t => r_sliceL S (obj_list e2) (.int _ _) .none (by simp) fun a3 h₃ S k3 e3 => ?_))
  have kn : slicePick ([.int 16 v1, .int 8 v2, .int 25 v3, .int 0 v4] : List Value).toArray (some (vs.length : Int)) none none = (([.int 16 v1, .int 8 v2, .int 25 v3, .int 0 v4] : List Value).drop vs.length).toArray := slicePick_from' _ vs.length
  have e3 := pick_obj e3 kn
  have e1 := k3 _ _ (k2 _ _ e1)
  refine r_addL e1 e3 (by rw [List.length_take, List.length_drop]; simp; omega) ?_
  have hints : IntsAre (vs.take 4 ++ ([.int 16 v1, .int 8 v2, .int 25 v3, .int 0 v4] : List Value).drop vs.length) (ns.take 4 ++ ([16, 8, 25, 0] : List Int).drop ns.length) := by
    rw [vl]
    exact (hI.take 4).append (IntsAre.drop (.cons _ _ (.cons _ _ (.cons _ _ (.cons _ _ .nil)))) _)
  have hlen : (vs.take 4 ++ ([.int 16 v1, .int 8 v2, .int 25 v3, .int 0 v4] : List Value).drop vs.length).length = 4 := by
    rw [List.length_append, List.length_take, List.length_drop]; simp; omega
  have q' : ∀ es, es = ns.take 4 ++ ([16, 8, 25, 0] : List Int).drop ns.length → drawsF ns = es.map fun x => x.fmod 49 := fun es e => by rw [e]; rfl
  generalize vs.take 4 ++ ([.int 16 v1, .int 8 v2, .int 25 v3, .int 0 v4] : List Value).drop vs.length = ws at *
  generalize hes : ns.take 4 ++ ([16, 8, 25, 0] : List Int).drop ns.length = es at *
  have q' := q' es rfl
  have hel : es.length = 4 := by rw [← hints.length]; exact hlen
  refine r_iterL (S.kp (Kp.push _ _)) (obj_list (Heap.get?_push_size _ rfl)) fun I h₄ S hIt hLs hne => ?_
  refine compW (Walks.list hh I _ hne ws.toArray) (listfp hIt hLs) (fun i h q => listI q.1) S ⟨hIt, hLs⟩ (ClOk.all trivial) rfl rfl rfl (by rw [List.size_toArray, hlen, sizeLine_eq]; decide)
    (fun _ i _ ys => IntsAre ys ((es.map fun x => x.fmod 49).take i)) (fun _ _ _ => .nil) ?_ ?_
  · rintro i v bc C D b₁ m₁ ys h₁ t₁ oI E' Q' Z' hi hP kb Sb kb₁ hJ hx S hQ hZ
    obtain ⟨u, hg, rfl⟩ := ints_of_get hints (by simpa using hP)
    refine wpAny_tests_nil ?_
    rw [if_pos rfl]
    refine wpAny_BinOp (r_nm S rfl hx (r_int fun u t => r_mod (by decide) fun ur t => (hQ _ _ _ _ _ (Kp.refl _) S ?_)))
    rw [take_snoc (x := (es.getD i 0).fmod 49) (by rw [List.getElem?_map, hg]; rfl)]
    exact ints_snoc hJ
  · intro bc b₁ b' C D ys h' t' hJ kb kb' hn hD hL S
    refine post_use S rfl fun h' t' S => ?_
    refine q _ _ _ _ _ (kb1.trans kb') S ⟨⟨D, ys, rfl, hL, ?_⟩, lt, _, rfl, kb' _ _ hlt, ?_⟩
    · rw [q']
      have e : (es.map fun x => x.fmod 49).take ws.toArray.size = es.map fun x => x.fmod 49 := by
        rw [List.size_toArray, hlen]; exact List.take_of_length_le (by rw [List.length_map, hel]; exact Nat.le_refl _)
      rw [e] at hJ
      exact hJ
    · exact ((((((StrsAre.nil.snoc (x := Str.ofString "") (u := u1)).snoc (u := u2)).snoc (u := u3)).snoc (u := u4)).snoc (u := u5)).snoc (u := u6)).snoc (u := u7)
end Mine

open PySem PySem.W PyProof.Rows PySem.Calls
set_option Elab.async false
set_option linter.unusedVariables false
set_option maxRecDepth 100000
namespace Mine
variable {prog : Program} {w : World} {A : Around} {E : Value → Shared → Prop} {mg mb : Str → Option Value}
variable {b h : Heap} {env : Env} {wc : List (Str × Addr)} {m cm : Str → Option Value} {own : Own} {g : Array GenState} {d : Drawn} {t : Nat} {os : OsState}
variable {R : Result → Shared → Prop}

def headsF (ds : List Int) : List Str := ds.map fun x => leadA.getD (x.fmod 7).toNat ⟨#[]⟩
def tailsF (ds : List Int) : List Str := ds.map fun x => leadA.getD (x.fdiv 7).toNat ⟨#[]⟩
theorem leadA_get {vs : List Value} (S : StrsAre vs leadA) {i : Int} (h0 : 0 ≤ i) (h1 : i < 7) : ∃ u, vs[i.toNat]? = some (.str (leadA.getD i.toNat ⟨#[]⟩) u) := by
  have hl : i.toNat < leadA.length := by simp [leadA]; omega
  exact S.2 _ _ (by rw [List.getD_eq_getElem?_getD, List.getElem?_eq_getElem hl]; rfl)
theorem getD_mem {ds : List Int} {i : Nat} (h : ds[i]? = some (ds.getD i 0)) : ds.getD i 0 ∈ ds := List.mem_of_getElem? h

/-- heads and tails -/
structure FHok (b : Heap) (m : Str → Option Value) (hs ts : List Str) (ha : Addr) (hv : List Value) (ta : Addr) (tv : List Value) : Prop where
  mh : m (Str.ofString "heads") = some (.ref ha)
  hhd : b.PlainList ha (List.toArray hv)
  hhs : StrsAre hv hs
  mt : m (Str.ofString "tails") = some (.ref ta)
  htd : b.PlainList ta (List.toArray tv)
  hts : StrsAre tv ts
def FH (b : Heap) (m : Str → Option Value) (hs ts : List Str) : Prop := ∃ ha hv ta tv, FHok b m hs ts ha hv ta tv

set_option maxHeartbeats 4000000 in
theorem segA2 {ds : List Int} {L fa : Addr} {cd : Value} {Q : Flow → Shared → Prop} (S : St b (lawEnv L fa cd) (lawCells L) m cm [] h) (hF : FD b m cm ds) (hdl : ds.length = 4) (hdr : ∀ x ∈ ds, 0 ≤ x ∧ x < 49)
    (hh : A.handled = none) (hr : A.depth + 100 < recursionLimit)
    (q : ∀ b' m' cm' h' t', Kp b b' → St b' (lawEnv L fa cd) (lawCells L) m' cm' [] h' → FH b' m' (headsF ds) (tailsF ds) → wpAny (model prog w) A (execs (lawBody.drop 4) (lawEnv L fa cd)) Q E ⟨h', g, d, t', os⟩) :
    wpAny (model prog w) A (execs (lawBody.drop 2) (lawEnv L fa cd)) Q E ⟨h, g, d, t, os⟩ := by
  obtain ⟨⟨da, dv, md, hd, hI⟩, lt, lv, ml, hlt, hA⟩ := hF
  have dvl := hI.length
  refine wpAny_execs_cons (r_alc rfl rfl rfl rfl ?_)
  refine r_nm S rfl md (r_iterL S (list_kp hd.isList S.keep) fun I h₄ S hIt hLs hne => ?_)
  refine compW (Walks.list hh I _ hne dv.toArray) (listfp hIt hLs) (fun i h q => listI q.1) S ⟨hIt, hLs⟩ (ClOk.all ⟨rfl, trivial⟩) rfl rfl rfl (by rw [List.size_toArray, dvl, hdl, sizeLine_eq]; decide)
    (fun _ i _ ys => StrsAre ys ((headsF ds).take i)) (fun _ _ _ => .nil) ?_ ?_
  · rintro i v bc C D b₁ m₁ ys h₁ t₁ oI E' Q' Z' hi hP kb Sb kb₁ hJ hx S hQ hZ
    obtain ⟨u, hg, rfl⟩ := ints_of_get hI (by simpa using hP)
    have hb := hdr _ (getD_mem hg)
    have hm0 : 0 ≤ (ds.getD i 0).fmod 7 := Int.fmod_nonneg_of_pos _ (by decide)
    have hm1 : (ds.getD i 0).fmod 7 < 7 := Int.fmod_lt_of_pos _ (by decide)
    obtain ⟨ul, hul⟩ := leadA_get hA hm0 hm1
    refine wpAny_tests_nil ?_
    rw [if_pos rfl]
    refine Subscript_ (r_nmc S rfl rfl ml (wpAny_BinOp (r_nm S rfl hx (r_int fun u t => r_mod (by decide) fun ur t => r_subT (S.keep _ _ (kb₁ _ _ (kb _ _ hlt))) hm0 (by first | assumption | exact Nat.le_trans (by assumption) (by decide) | exact Nat.lt_of_lt_of_le (by assumption) (by decide) | exact Int.natCast_nonneg _ | exact Int.ofNat_lt.mpr (lt4 (by assumption)) | exact dep (by assumption) (by decide) | omega) hul (hQ _ _ _ _ _ (Kp.refl _) S ?_)))))
    rw [take_snoc (l := headsF ds) (x := leadA.getD ((ds.getD i 0).fmod 7).toNat ⟨#[]⟩) (by unfold headsF; rw [List.getElem?_map, hg]; rfl)]
    exact hJ.snoc
  intro bc b₁ b' C D ys h' t' hJ kb kb' hn hD hL S
  refine post_use S rfl fun h' t' S => ?_
  have e : (headsF ds).take dv.toArray.size = headsF ds := by
    rw [List.size_toArray, dvl]; exact List.take_of_length_le (by unfold headsF; rw [List.length_map]; exact Nat.le_refl _)
  rw [e] at hJ
  replace hlt := kb' _ _ hlt
  replace hd : b'.PlainList da dv.toArray := let ⟨n, e⟩ := hd; ⟨n, kb' _ _ e⟩
  clear e kb hn
  refine wpAny_execs_cons (r_alc rfl rfl rfl rfl ?_)
  refine r_nm S rfl md (r_iterL S (list_kp hd.isList S.keep) fun I h₄ S hIt hLs hne => ?_)
  refine compW (Walks.list hh I _ hne dv.toArray) (listfp hIt hLs) (fun i h q => listI q.1) S ⟨hIt, hLs⟩ (ClOk.all ⟨rfl, trivial⟩) rfl rfl rfl (by rw [List.size_toArray, dvl, hdl, sizeLine_eq]; decide)
    (fun _ i _ ys => StrsAre ys ((tailsF ds).take i)) (fun _ _ _ => .nil) ?_ ?_
  · rintro i v bc C D b₁ m₁ ys h₁ t₁ oI E' Q' Z' hi hP kb Sb kb₁ hJ hx S hQ hZ
    obtain ⟨u, hg, rfl⟩ := ints_of_get hI (by simpa using hP)
    have hb := hdr _ (getD_mem hg)
    have hm : (ds.getD i 0).fdiv 7 = (ds.getD i 0) / 7 := Int.fdiv_eq_ediv_of_nonneg _ (by decide)
    have hm0 : 0 ≤ (ds.getD i 0).fdiv 7 := by rw [hm]; omega
    have hm1 : (ds.getD i 0).fdiv 7 < 7 := by rw [hm]; omega
    obtain ⟨ul, hul⟩ := leadA_get hA hm0 hm1
    refine wpAny_tests_nil ?_
    rw [if_pos rfl]
    refine Subscript_ (r_nmc S rfl rfl ml (wpAny_BinOp (r_nm S rfl hx (r_int fun u t => r_fdiv (by decide) (by decide) fun ur t => r_subT (S.keep _ _ (kb₁ _ _ (kb _ _ hlt))) hm0 (by first | assumption | exact Nat.le_trans (by assumption) (by decide) | exact Nat.lt_of_lt_of_le (by assumption) (by decide) | exact Int.natCast_nonneg _ | exact Int.ofNat_lt.mpr (lt4 (by assumption)) | exact dep (by assumption) (by decide) | omega) hul (hQ _ _ _ _ _ (Kp.refl _) S ?_)))))
    rw [take_snoc (l := tailsF ds) (x := leadA.getD ((ds.getD i 0).fdiv 7).toNat ⟨#[]⟩) (by unfold tailsF; rw [List.getElem?_map, hg]; rfl)]
    exact hJ.snoc
  intro bc b₁ b'' C D' ys' h' t' hJ' kb kb'' hn hD' hL' S
  refine post_use S rfl fun h' t' S => ?_
  have e : (tailsF ds).take dv.toArray.size = tailsF ds := by
    rw [List.size_toArray, dvl]; exact List.take_of_length_le (by unfold tailsF; rw [List.length_map]; exact Nat.le_refl _)
  rw [e] at hJ'
  exact q _ _ _ _ _ (kb'.trans kb'') S ⟨D, ys, D', ys', rfl, (let ⟨n, e⟩ := hL; ⟨n, kb'' _ _ e⟩), hJ, rfl, hL', hJ'⟩
end Mine

open PySem PySem.W PyProof.Rows PySem.Calls
set_option Elab.async false
set_option linter.unusedVariables false
set_option maxRecDepth 100000
namespace Mine
variable {prog : Program} {w : World} {A : Around} {E : Value → Shared → Prop} {mg mb : Str → Option Value}
variable {b h : Heap} {env : Env} {wc : List (Str × Addr)} {m cm : Str → Option Value} {own : Own} {g : Array GenState} {d : Drawn} {t : Nat} {os : OsState}
variable {R : Result → Shared → Prop}

theorem valueAt_cons {K : Type} [DecidableEq K] (p : K × Value) (kvs : List (K × Value)) (x : K) : valueAt (p :: kvs) x = if p.1 = x then some p.2 else valueAt kvs x := by
  unfold valueAt
  rw [List.find?_cons]
  by_cases h : p.1 = x <;> simp [h]
theorem valueAt_app {K : Type} [DecidableEq K] : ∀ (kvs : List (K × Value)) (k : K) (v : Value) (x : K), (kvs.any fun kv => decide (kv.1 = k)) = false → valueAt (kvs ++ [(k, v)]) x = if x = k then some v else valueAt kvs x
  | [], k, v, x, _ => by
    rw [List.nil_append, valueAt_cons]
    by_cases h : x = k
    · simp [h]
    · have : ¬ k = x := fun e => h e.symm
      simp [h, this]
  | p :: kvs, k, v, x, h => by
    rw [List.any_cons, Bool.or_eq_false_iff] at h
    rw [List.cons_append, valueAt_cons, valueAt_cons, valueAt_app kvs k v x h.2]
    have hp : ¬ p.1 = k := by simpa using h.1
    by_cases h1 : p.1 = x
    · have : ¬ x = k := fun e => hp (h1.trans e)
      simp [h1, this]
    · simp [h1]
theorem valueAt_put {K : Type} [DecidableEq K] : ∀ (kvs : List (K × Value)) (k : K) (v : Value) (x : K), (kvs.any fun kv => decide (kv.1 = k)) = true → valueAt (kvs.map fun kv => if kv.1 = k then (kv.1, v) else kv) x = if x = k then some v else valueAt kvs x
  | [], k, v, x, h => by simp at h
  | p :: kvs, k, v, x, h => by
    rw [List.map_cons, valueAt_cons, valueAt_cons]
    by_cases hk : (kvs.any fun kv => decide (kv.1 = k)) = true
    · rw [valueAt_put kvs k v x hk]
      by_cases hp : p.1 = k
      · by_cases hx : x = k
        · simp [hp, hx]
        · have h1 : ¬ k = x := fun e => hx e.symm
          simp [hp, hx, h1]
      · by_cases h1 : p.1 = x
        · have : ¬ x = k := fun e => hp (h1.trans e)
          simp [hp, h1, this]
        · simp [hp, h1]
    · have hp : p.1 = k := by
        rw [List.any_cons] at h
        simpa [hk] using h
      have hm : (kvs.map fun kv => if kv.1 = k then (kv.1, v) else kv) = kvs := by
        conv => rhs; rw [← List.map_id kvs]
        apply List.map_congr_left
        intro kv hkv
        have : ¬ kv.1 = k := fun e => hk (List.any_eq_true.mpr ⟨kv, hkv, by simpa using e⟩)
        simp [this]
      rw [hm]
      by_cases hx : x = k
      · simp [hp, hx]
      · have h1 : ¬ k = x := fun e => hx e.symm
        simp [hp, hx, h1]
theorem valueAt_stored {K : Type} [DecidableEq K] (kvs : List (K × Value)) (k : K) (v : Value) (x : K) : valueAt (stored kvs k v) x = if x = k then some v else valueAt kvs x := by
  unfold stored
  split
  · rename_i h; exact valueAt_put kvs k v x h
  · rename_i h; exact valueAt_app kvs k v x (Bool.eq_false_iff.mpr h)

/-- a dict comprehension bound to a local of the frame -/
theorem r_adc {kx vx iter : Expr} {x y : Str} {px py : Pos} {scope : Scope} {cl : List (Str × Addr)} {pos spos : Pos} {s : Shared} {Q : Flow → Shared → Prop}
    (hsw : swapsWith (.DictComp kx vx [⟨.Name x px, iter, [], 0⟩] scope pos) (some (.Name y py)) spos.line env = pure true) (hclos : closureFor scope env = pure cl) (hkind : scope.kind = .function)
    (hnames : (scope.names.all fun y => decide (y.2 = .local → scope.names.lookup y.1 = some .local)) = true)
    (q : wpAny (model prog w) A (eval iter env) (fun xv s₁ => wpAny (model prog w) A (pyIter xv) (fun it s₂ => wpAny (model prog w) A newDict (fun acc s₃ =>
      wpAny (model prog w) A (newFunctionEnv scope env.globals cl [] env.qual none .none (some env)) (fun cenv s₄ =>
        codeAny (model prog w) A (.compStart (.DictComp kx vx [⟨.Name x px, iter, [], 0⟩] scope pos) 0 it acc { cenv with scope := relabel scope env }) (compPost (model prog w) A E (some (assign (.Name y py) env)) (fun _ s' => Q .next s') acc cenv.locals) s₄) E s₃) E s₂) E s₁) E s)
    (hs : ∀ x, foldedSetIterable iter env x = pure x := by intro _; rfl) : wpAny (model prog w) A (exec (.Assign [.Name y py] (.DictComp kx vx [⟨.Name x px, iter, [], 0⟩] scope pos) spos) env) Q E s := by
  rw [exec_Assign_Name_used _ _ _ _ hsw]
  refine wpAny_bind (wpAny_standAt (wpAny_bind ?_))
  show wpAny _ A (do let _ ← comprehension (.DictComp kx vx [⟨.Name x px, iter, [], 0⟩] scope pos) scope env _ newDict false (eval iter env) (some (assign (.Name y py) env))) _ _ s
  exact wpAny_bind (wpAny_mono (wpAny_comprehension_free (use := some (assign (.Name y py) env)) (Q := fun _ s' => Q .next s') rfl hs hclos hkind (fun y hy => of_decide_eq_true (List.all_eq_true.mp hnames y hy)) q) (fun _ s' hq => wpAny_pure (wpAny_pure hq)) fun _ _ e => e)
/-- a tuple's iterator -/
theorem r_iterT {a : Addr} {vs : List Value} {n : Nat} {Q : Value → Shared → Prop} (S : St b env wc m cm own h) (hl : h.get? a = some { cls := .type "tuple", data := .seq vs.toArray n })
    (q : ∀ I h', St b env wc m cm ((I, fun _ => True) :: own) h' → h'.IsTupleIter I a 0 → h'.IsTuple a vs.toArray → a ≠ I → Q (.ref I) ⟨h', g, d, t, os⟩) : wpAny (model prog w) A (pyIter (.ref a)) Q E ⟨h, g, d, t, os⟩ := by
  have hlt : a < h.objs.size := Heap.lt_size hl
  have hT : h.IsTuple a vs.toArray := ⟨_, hl, rfl, n, rfl⟩
  exact wpAny_pyIter_tuple (s := ⟨h, g, d, t, os⟩) hT (q _ _ (S.pushO rfl trivial) ⟨_, Heap.get?_push_size _ rfl, rfl, rfl⟩ (tup_kp hT (Kp.push _ _)) (Nat.ne_of_lt hlt))
theorem tupI {I ax : Addr} {i : Nat} (q : h.IsTupleIter I ax i) : ∃ o, h.get? I = some o := let ⟨o, ho, _⟩ := q; ⟨o, ho⟩
theorem tupfp {I ax : Addr} {i : Nat} {items : Array Value} (q : h.IsTupleIter I ax i) (l : h.IsTuple ax items) : ∀ a ∈ [I, ax], ∃ o, h.get? a = some o := fun a ha => by
  rcases List.mem_cons.mp ha with rfl | ha
  · exact tupI q
  · rw [List.mem_singleton.mp ha]; obtain ⟨o, ho, _⟩ := l; exact ⟨o, ho⟩
end Mine

open PySem PySem.W PyProof.Rows PySem.Calls
set_option Elab.async false
set_option linter.unusedVariables false
set_option maxRecDepth 100000
namespace Mine
variable {prog : Program} {w : World} {A : Around} {E : Value → Shared → Prop} {mg mb : Str → Option Value}
variable {b h : Heap} {env : Env} {wc : List (Str × Addr)} {m cm : Str → Option Value} {own : Own} {g : Array GenState} {d : Drawn} {t : Nat} {os : OsState}
variable {R : Result → Shared → Prop}

/-- the columns of a lead, in a table -/
def ColsAt (b : Heap) (kvs : List (Str × Value)) (x : Str) : Prop := ∃ la vs, valueAt kvs x = some (.ref la) ∧ b.PlainList la (List.toArray vs) ∧ IntsAre vs [colF x.cps.toList 1, colF x.cps.toList 2, colF x.cps.toList 3]
theorem plain_kp {h h' : Heap} {a : Addr} {vs : Array Value} (k : Kp h h') (p : h.PlainList a vs) : h'.PlainList a vs := let ⟨n, e⟩ := p; ⟨n, k _ _ e⟩
def ColsN (bc b : Heap) (kvs : List (Str × Value)) (x : Str) : Prop := ∃ la vs, valueAt kvs x = some (.ref la) ∧ b.PlainList la (List.toArray vs) ∧ IntsAre vs [colF x.cps.toList 1, colF x.cps.toList 2, colF x.cps.toList 3] ∧ bc.get? la = none
theorem ColsAt.kp {b b' : Heap} {kvs : List (Str × Value)} {x : Str} (k : Kp b b') (c : ColsAt b kvs x) : ColsAt b' kvs x := let ⟨la, vs, h1, h2, h3⟩ := c; ⟨la, vs, h1, plain_kp k h2, h3⟩
structure FSok (w : World) (prog : Program) (b : Heap) (m : Str → Option Value) (xs : List Str) (a : Addr) (o : Obj) (kvs : List (Str × Value)) : Prop where
  ms : m (Str.ofString "stops") = some (.ref a)
  ho : b.get? a = some o
  hD : isD (PySem.strKind prog w) kvs o
  hc : ∀ x ∈ xs, ColsAt b kvs x
def FS (w : World) (prog : Program) (b : Heap) (m : Str → Option Value) (xs : List Str) : Prop := ∃ a o kvs, FSok w prog b m xs a o kvs
theorem lead_ascii : ∀ x ∈ leadL, x.cps.all (· < 128) = true := by decide +kernel

set_option maxHeartbeats 4000000 in
theorem segA3 {hs ts : List Str} {L fa : Addr} {cd : Value} {Q : Flow → Shared → Prop} (U : Up w mg mb b) (S : St b (lawEnv L fa cd) (lawCells L) m cm [] h) (hF : FH b m hs ts) (hhl : hs.length = 4) (htl : ts.length = 4) (hhm : ∀ x ∈ hs, x ∈ leadL) (htm : ∀ x ∈ ts, x ∈ leadL)
    (hh : A.handled = none) (hr : A.depth + 100 < recursionLimit)
    (q : ∀ b' m' cm' h' t', Kp b b' → St b' (lawEnv L fa cd) (lawCells L) m' cm' [] h' → FH b' m' hs ts → FS w prog b' m' (hs ++ ts) → wpAny (model prog w) A (execs (lawBody.drop 5) (lawEnv L fa cd)) Q E ⟨h', g, d, t', os⟩) :
    wpAny (model prog w) A (execs (lawBody.drop 4) (lawEnv L fa cd)) Q E ⟨h, g, d, t, os⟩ := by
  obtain ⟨ha, hv, ta, tv, mh, hhd, hhs, mt, htd, hts⟩ := hF
  obtain ⟨nh, eh⟩ := id hhd
  obtain ⟨nt, et⟩ := id htd
  have hl := hhs.1
  have tl := hts.1
  have hall := hhs.append hts
  refine wpAny_execs_cons (r_adc rfl rfl rfl rfl (wpAny_BinOp (r_nm S rfl mh (r_nm S rfl mt (r_addL (S.keep _ _ eh) (S.keep _ _ et) (by first | assumption | exact Nat.le_trans (by assumption) (by decide) | exact Nat.lt_of_lt_of_le (by assumption) (by decide) | exact Int.natCast_nonneg _ | exact Int.ofNat_lt.mpr (lt4 (by assumption)) | exact dep (by assumption) (by decide) | omega) ?_)))))
  refine r_iterL (S.kp (Kp.push _ _)) (obj_list (Heap.get?_push_size _ rfl)) fun I h₄ S hIt hLs hne => ?_
  refine compDW (PySem.strKind prog w) (Walks.list hh I _ hne (hv ++ tv).toArray) (listfp hIt hLs) (fun i h q => listI q.1) S ⟨hIt, hLs⟩ (ClOk.all trivial) (by rw [List.size_toArray, List.length_append, sizeLine_eq]; omega) ?_
    (fun bc i b kvs => ∀ x ∈ (hs ++ ts).take i, ColsN bc b kvs x) (fun _ _ _ x hx => by simp at hx) ?_ ?_
  · obtain ⟨o, _, _, ho, _⟩ := U.g
    exact ⟨3, o, by decide, ho⟩
  · rintro i v bc C D b₁ m₁ cm₁ kvs h₁ t₁ oI E' Q' hi hP kb Sb kb₁ hJ hcm S hQ
    obtain ⟨x, u, hx, rfl⟩ := hall.of (by simpa using hP)
    have hxl : x ∈ leadL := (List.mem_append.mp (List.mem_of_getElem? hx)).elim (hhm x) (htm x)
    have U := (U.kp kb).kp kb₁
    refine r_asc S rfl rfl rfl fun h₁ S => ?_
    refine r_nmc S rfl rfl rfl ?_
    refine r_lc rfl rfl rfl ?_
    refine Tuple_ (r_spc (r_int fun v1 t => r_spc (r_int fun v2 t => r_spc (r_int fun v3 t => r_spn (r_newT S (by simp) fun lt b1 h₁ kb1 S hlt _ => ?_)))))
    refine r_iterT S (S.keep _ _ hlt) fun I2 h₁ S hIt2 hT2 hne2 => ?_
    have U := U.kp kb1
    have hints : IntsAre ([.int 1 v1, .int 2 v2, .int 3 v3] : List Value) [1, 2, 3] := .cons _ _ (.cons _ _ (.cons _ _ .nil))
    refine compW (Walks.tuple hh I2 _ hne2 _) (tupfp hIt2 hT2) (fun i h q => tupI q.1) S ⟨hIt2, hT2⟩ (ClOk.all ⟨rfl, trivial⟩) rfl rfl rfl (by rw [sizeLine_eq]; exact Nat.le_of_ble_eq_true rfl)
      (fun _ i _ ys => IntsAre ys (([1, 2, 3] : List Int).map (colF x.cps.toList) |>.take i)) (fun _ _ _ => .nil) ?_ ?_
    · rintro i2 v bc2 C2 D2 b₂ m₂ ys h₂ t₂ oI2 E2 Q' Z' hi2 hP2 kb2 Sb2 kb₂ hJ2 hx2 S hQ hZ
      obtain ⟨u2, hg2, rfl⟩ := ints_of_get hints (by simpa using hP2)
      have U := (U.kp kb2).kp kb₂
      refine wpAny_tests_nil ?_
      rw [if_pos rfl]
      have hne0 : ([1, 2, 3] : List Int).getD i2 0 ≠ 0 := by
        have hm : ([1, 2, 3] : List Int).getD i2 0 ∈ ([1, 2, 3] : List Int) := List.mem_of_getElem? hg2
        simp only [List.mem_cons, List.not_mem_nil, or_false] at hm
        omega
      refine wpAny_Call_NameR (r_nmg U S rfl rfl (callWith_def rfl (r_arg2 (r_nmc S rfl rfl rfl (r_nm S rfl hx2 ⟨S.keep _ _ (U.kin _ _ rfl), wpAny_call (col_ok (U.kp S.keep) (by show _ < _; omega) hh (lead_ascii x hxl) hne0 fun h₃ t₃ u₃ k₃ => ?_)⟩)))))
      refine (hQ _ _ _ _ _ (Kp.refl _) (S.kp k₃) ?_)
      rw [take_snoc (x := colF x.cps.toList (([1, 2, 3] : List Int).getD i2 0)) (by rw [List.getElem?_map, hg2]; rfl)]
      exact ints_snoc hJ2
    · intro bc2 b₂ b' C2 D2 ys h' t' hJ2 kb2 kb' hn hD2 hL2 S
      refine post_none S fun h' S => ?_
      refine hQ _ _ x _ _ _ _ _ (PySem.strKind_is prog w x _) (kb1.trans kb') ?_ S ?_
      · intro y hy
        have : y ≠ Str.ofString "lead" := fun e => by rw [e] at hy; cases hy
        unfold upd; rw [if_neg this]; exact hcm y hy
      · intro y hy
        rw [take_snoc hx] at hy
        unfold ColsN
        rw [valueAt_stored]
        by_cases he : y = x
        · subst he
          exact ⟨D2, ys, if_pos rfl, hL2, hJ2, none_of_kp (kb₁.trans (kb1.trans kb2)) hD2⟩
        · rw [if_neg he]
          rcases List.mem_append.mp hy with hy | hy
          · obtain ⟨la, vs, g1, g2, g3, g4⟩ := hJ y hy
            exact ⟨la, vs, g1, plain_kp (kb1.trans kb') g2, g3, g4⟩
          · exact absurd (List.mem_singleton.mp hy) he
  · intro bc b₁ b' C D kvs h' t' hJ kb kb' hn hDn hD1 hD S
    obtain ⟨oD, hoD, hPD⟩ := hD
    refine post_use S rfl fun h' t' S => ?_
    refine q _ _ _ _ _ kb' S ⟨ha, hv, ta, tv, mh, plain_kp kb' hhd, hhs, mt, plain_kp kb' htd, hts⟩ ⟨D, oD, kvs, rfl, hoD, hPD, fun x hx => ?_⟩
    have e : (hs ++ ts).take (hv ++ tv).toArray.size = hs ++ ts := List.take_of_length_le (by rw [List.size_toArray, List.length_append, List.length_append]; omega)
    rw [e] at hJ
    obtain ⟨la, vs, h1, ⟨n, h2⟩, h3, h4⟩ := hJ x hx
    exact ⟨la, vs, h1, ⟨n, hn _ _ h4 h2⟩, h3⟩
end Mine

open PySem PySem.W PyProof.Rows PySem.Calls
set_option Elab.async false
set_option linter.unusedVariables false
set_option maxRecDepth 100000
namespace Mine
variable {prog : Program} {w : World} {A : Around} {E : Value → Shared → Prop} {mg mb : Str → Option Value}
variable {b h : Heap} {env : Env} {wc : List (Str × Addr)} {m cm : Str → Option Value} {own : Own} {g : Array GenState} {d : Drawn} {t : Nat} {os : OsState}
variable {R : Result → Shared → Prop}

theorem WsAt.new {P : Params} {h₀ h h' : Heap} {x : Addr} {lead : Str} (k : ∀ a o, h₀.get? a = none → h.get? a = some o → h'.get? a = some o) (W : WsAt P h₀ h x lead) : WsAt P h₀ h' x lead := by
  obtain ⟨q, W⟩ := W
  exact ⟨q, k _ _ W.n1 W.hx, k _ _ W.n2 W.hdx, k _ _ W.n3 W.hnrm, k _ _ W.n4 W.hcnt, W.hvs, W.n1, W.n2, W.n3, W.n4⟩
theorem WsAt.old {P : Params} {h₀ h₁ h : Heap} {x : Addr} {lead : Str} (k : Kp h₀ h₁) (W : WsAt P h₁ h x lead) : WsAt P h₀ h x lead := by
  obtain ⟨q, W⟩ := W
  exact ⟨q, W.hx, W.hdx, W.hnrm, W.hcnt, W.hvs, none_of_kp k W.n1, none_of_kp k W.n2, none_of_kp k W.n3, none_of_kp k W.n4⟩
def WssAre (P : Params) (h₀ h : Heap) (vs : List Value) (xs : List Str) : Prop := vs.length = xs.length ∧ ∀ (i : Nat) (x : Str), xs[i]? = some x → ∃ a, vs[i]? = some (.ref a) ∧ WsAt P h₀ h a x
theorem WssAre.snoc {P : Params} {h₀ h : Heap} {vs : List Value} {xs : List Str} {a : Addr} {x : Str} (S : WssAre P h₀ h vs xs) (hW : WsAt P h₀ h a x) : WssAre P h₀ h (vs ++ [Value.ref a]) (xs ++ [x]) := by
  refine ⟨by simp [S.1], fun i y e => ?_⟩
  by_cases h : i < xs.length
  · rw [List.getElem?_append_left h] at e
    obtain ⟨u, hu, hw⟩ := S.2 i y e
    exact ⟨u, by rw [List.getElem?_append_left (by rw [S.1]; exact h)]; exact hu, hw⟩
  · rw [List.getElem?_append_right (by first | assumption | exact Nat.le_trans (by assumption) (by decide) | exact Nat.lt_of_lt_of_le (by assumption) (by decide) | exact Int.natCast_nonneg _ | exact Int.ofNat_lt.mpr (lt4 (by assumption)) | exact dep (by assumption) (by decide) | omega)] at e
    have hi : i - xs.length = 0 := by
      have := (List.getElem?_eq_some_iff.mp e).1
      simp at this; omega
    rw [hi] at e; cases e
    exact ⟨a, by rw [List.getElem?_append_right (by have := S.1; omega), S.1, hi]; rfl, hW⟩
theorem WssAre.kp {P : Params} {h₀ h h' : Heap} {vs : List Value} {xs : List Str} (k : Kp h h') (S : WssAre P h₀ h vs xs) : WssAre P h₀ h' vs xs :=
  ⟨S.1, fun i x e => let ⟨a, h1, h2⟩ := S.2 i x e; ⟨a, h1, h2.kp k⟩⟩
structure FWok (P : Params) (b : Heap) (m : Str → Option Value) (n : Str) (xs : List Str) (a : Addr) (vs : List Value) (h₀ : Heap) : Prop where
  mf : m n = some (.ref a)
  hd : b.PlainList a (List.toArray vs)
  hs : WssAre P h₀ b vs xs
def FW (P : Params) (b : Heap) (m : Str → Option Value) (n : Str) (xs : List Str) : Prop := ∃ a vs h₀, FWok P b m n xs a vs h₀
theorem FW.kp {P : Params} {b b' : Heap} {m m' : Str → Option Value} {n : Str} {xs : List Str} (k : Kp b b') (e : m' n = m n) (f : FW P b m n xs) : FW P b' m' n xs := by
  obtain ⟨a, vs, h₀, h1, h2, h3⟩ := f
  exact ⟨a, vs, h₀, e.trans h1, plain_kp k h2, h3.kp k⟩
theorem FH.kp {b b' : Heap} {m m' : Str → Option Value} {hs ts : List Str} (k : Kp b b') (e1 : m' (Str.ofString "heads") = m (Str.ofString "heads")) (e2 : m' (Str.ofString "tails") = m (Str.ofString "tails")) (f : FH b m hs ts) : FH b' m' hs ts := by
  obtain ⟨ha, hv, ta, tv, mh, hhd, hhs, mt, htd, hts⟩ := f
  exact ⟨ha, hv, ta, tv, e1.trans mh, plain_kp k hhd, hhs, e2.trans mt, plain_kp k htd, hts⟩
theorem FS.kp {b b' : Heap} {m m' : Str → Option Value} {xs : List Str} (k : Kp b b') (e : m' (Str.ofString "stops") = m (Str.ofString "stops")) (f : FS w prog b m xs) : FS w prog b' m' xs := by
  obtain ⟨a, o, kvs, h1, h2, h3, h4⟩ := f
  exact ⟨a, o, kvs, e.trans h1, k _ _ h2, h3, fun x hx => (h4 x hx).kp k⟩
theorem lead_chars : ∀ x ∈ leadL, ∀ c ∈ x.cps.toList, c = 32 ∨ c = 9 := by decide +kernel

set_option maxHeartbeats 4000000 in
theorem segA4 {hs ts : List Str} {L fa : Addr} {cd : Value} {Q : Flow → Shared → Prop} (U : Up w mg mb b) (S : St b (lawEnv L fa cd) (lawCells L) m cm [] h) (hF : FH b m hs ts) (hS : FS w prog b m (hs ++ ts)) (hhl : hs.length = 4) (htl : ts.length = 4) (hhm : ∀ x ∈ hs, x ∈ leadL) (htm : ∀ x ∈ ts, x ∈ leadL)
    (hh : A.handled = none) (hr : A.depth + 100 < recursionLimit)
    (q : ∀ b' m' cm' ca h' t', Kp b b' → St b' (lawEnv L fa cd) (lawCells L) m' cm' [(ca, isL [])] h' → FH b' m' hs ts → FS w prog b' m' (hs ++ ts) → FW w.params b' m' (Str.ofString "fronts") hs → FW w.params b' m' (Str.ofString "ends") ts → cm' (Str.ofString "costs") = some (.ref ca) →
      wpAny (model prog w) A (execs (lawBody.drop 8) (lawEnv L fa cd)) Q E ⟨h', g, d, t', os⟩) :
    wpAny (model prog w) A (execs (lawBody.drop 5) (lawEnv L fa cd)) Q E ⟨h, g, d, t, os⟩ := by
  obtain ⟨ha, hv, ta, tv, mh, hhd, hhs, mt, htd, hts⟩ := id hF
  refine wpAny_execs_cons (r_alc rfl rfl rfl rfl (r_nm S rfl mh (r_iterL S (list_kp hhd.isList S.keep) fun I h₄ S hIt hLs hne => ?_)))
  refine compW (Walks.list hh I _ hne hv.toArray) (listfp hIt hLs) (fun i h q => listI q.1) S ⟨hIt, hLs⟩ (ClOk.all trivial) rfl rfl rfl (by rw [List.size_toArray, hhs.1, hhl, sizeLine_eq]; decide)
    (fun bc i b ys => WssAre w.params bc b ys (hs.take i)) (fun _ _ _ => ⟨rfl, fun i x e => by simp at e⟩) ?_ ?_
  · rintro i v bc C D b₁ m₁ ys h₁ t₁ oI E' Q' Z' hi hP kb Sb kb₁ hJ hx S hQ hZ
    obtain ⟨x, u, hx', rfl⟩ := hhs.of (by simpa using hP)
    have hxl : x ∈ leadL := hhm x (List.mem_of_getElem? hx')
    have lx := lead_len x hxl
    have U := (U.kp kb).kp kb₁
    refine wpAny_tests_nil ?_
    rw [if_pos rfl]
    refine wpAny_Call_NameR (r_nmg U S rfl rfl (callWith_K U.kin rfl (r_arg1 (r_nm S rfl hx ⟨(U.kp S.keep).kin, wpAny_call (init_ok (U.kp S.keep) (by first | assumption | exact Nat.le_trans (by assumption) (by decide) | exact Nat.lt_of_lt_of_le (by assumption) (by decide) | exact Int.natCast_nonneg _ | exact Int.ofNat_lt.mpr (lt4 (by assumption)) | exact dep (by assumption) (by decide) | omega) hh (lead_ascii x hxl) (by first | assumption | exact Nat.le_trans (by assumption) (by decide) | exact Nat.lt_of_lt_of_le (by assumption) (by decide) | exact Int.natCast_nonneg _ | exact Int.ofNat_lt.mpr (lt4 (by assumption)) | exact dep (by assumption) (by decide) | omega) (lead_chars x hxl) fun p h₂ t₂ k₂ hW => ?_)⟩))))
    obtain ⟨b₂, kb₂, S₂, hb₂⟩ := S.grow k₂
    refine (hQ _ _ _ _ _ kb₂ S₂ ?_)
    rw [take_snoc hx']
    exact (hJ.kp kb₂).snoc ((hW.new fun a o n e => hb₂ a o (S.out n) e).old (kb₁.trans S.keep))
  · intro bc b₁ b' C D ys h' t' hJ kb kb' hn hD hL S
    refine post_use S rfl fun h' t' S => ?_
    have e : hs.take hv.toArray.size = hs := List.take_of_length_le (by rw [List.size_toArray, hhs.1]; exact Nat.le_refl _)
    rw [e] at hJ
    have hFr : FW w.params b' (upd m (Str.ofString "fronts") (.ref D)) (Str.ofString "fronts") hs := ⟨D, ys, bc, rfl, hL, hJ.1, fun i x e => let ⟨a, h1, h2⟩ := hJ.2 i x e; ⟨a, h1, h2.new hn⟩⟩
    replace hF := FH.kp (m := m) (m' := upd m (Str.ofString "fronts") (.ref D)) kb' rfl rfl hF
    replace hS := FS.kp (m := m) (m' := upd m (Str.ofString "fronts") (.ref D)) kb' rfl hS
    have U := U.kp kb'
    clear hJ hL hn hD kb hhd htd hhs hts mh mt
    obtain ⟨-, -, ta, tv, -, -, -, mt, htd, hts⟩ := id hF
    refine wpAny_execs_cons (r_alc rfl rfl rfl rfl (r_nm S rfl mt (r_iterL S (list_kp htd.isList S.keep) fun I h₄ S hIt hLs hne => ?_)))
    refine compW (Walks.list hh I _ hne tv.toArray) (listfp hIt hLs) (fun i h q => listI q.1) S ⟨hIt, hLs⟩ (ClOk.all trivial) rfl rfl rfl (by rw [List.size_toArray, hts.1, htl, sizeLine_eq]; decide)
      (fun bc i b ys => WssAre w.params bc b ys (ts.take i)) (fun _ _ _ => ⟨rfl, fun i x e => by simp at e⟩) ?_ ?_
    · rintro i v bc C D b₁ m₁ ys h₁ t₁ oI E' Q' Z' hi hP kb Sb kb₁ hJ hx S hQ hZ
      obtain ⟨x, u, hx', rfl⟩ := hts.of (by simpa using hP)
      have hxl : x ∈ leadL := htm x (List.mem_of_getElem? hx')
      have lx := lead_len x hxl
      have U := (U.kp kb).kp kb₁
      refine wpAny_tests_nil ?_
      rw [if_pos rfl]
      refine wpAny_Call_NameR (r_nmg U S rfl rfl (callWith_K U.kin rfl (r_arg1 (r_nm S rfl hx ⟨(U.kp S.keep).kin, wpAny_call (init_ok (U.kp S.keep) (by first | assumption | exact Nat.le_trans (by assumption) (by decide) | exact Nat.lt_of_lt_of_le (by assumption) (by decide) | exact Int.natCast_nonneg _ | exact Int.ofNat_lt.mpr (lt4 (by assumption)) | exact dep (by assumption) (by decide) | omega) hh (lead_ascii x hxl) (by first | assumption | exact Nat.le_trans (by assumption) (by decide) | exact Nat.lt_of_lt_of_le (by assumption) (by decide) | exact Int.natCast_nonneg _ | exact Int.ofNat_lt.mpr (lt4 (by assumption)) | exact dep (by assumption) (by decide) | omega) (lead_chars x hxl) fun p h₂ t₂ k₂ hW => ?_)⟩))))
      obtain ⟨b₂, kb₂, S₂, hb₂⟩ := S.grow k₂
      refine (hQ _ _ _ _ _ kb₂ S₂ ?_)
      rw [take_snoc hx']
      exact (hJ.kp kb₂).snoc ((hW.new fun a o n e => hb₂ a o (S.out n) e).old (kb₁.trans S.keep))
    · intro bc b₁ b'' C D2 ys h' t' hJ kb kb'' hn hD hL S
      refine post_use S rfl fun h' t' S => ?_
      have e : ts.take tv.toArray.size = ts := List.take_of_length_le (by rw [List.size_toArray, hts.1]; exact Nat.le_refl _)
      rw [e] at hJ
      refine wpAny_execs_cons (wpAny_Assign_Name (r_list0 (r_newL S (by simp) fun ca h₁ S _ => r_stc S rfl rfl rfl fun h₁ S => ?_)))
      exact q _ _ _ ca _ _ (kb'.trans kb'') S (FH.kp (m := upd m (Str.ofString "fronts") (.ref D)) kb'' rfl rfl hF) (FS.kp (m := upd m (Str.ofString "fronts") (.ref D)) kb'' rfl hS) (FW.kp (m := upd m (Str.ofString "fronts") (.ref D)) kb'' rfl hFr) ⟨D2, ys, bc, rfl, hL, hJ.1, fun i x e => let ⟨a, h1, h2⟩ := hJ.2 i x e; ⟨a, h1, h2.new hn⟩⟩ rfl
end Mine

open PySem PySem.W PyProof.Rows PySem.Calls
set_option Elab.async false
set_option linter.unusedVariables false
set_option maxRecDepth 100000
namespace Mine
variable {prog : Program} {w : World} {A : Around} {E : Value → Shared → Prop} {mg mb : Str → Option Value}
variable {b h : Heap} {env : Env} {wc : List (Str × Addr)} {m cm : Str → Option Value} {own : Own} {g : Array GenState} {d : Drawn} {t : Nat} {os : OsState}
variable {R : Result → Shared → Prop}

theorem r_addS {x y : Str} {u v : Tok} {Q : Value → Shared → Prop} (hx : x.length + y.length ≤ 1000) (q : ∀ u t', Q (.str (x ++ y) u) ⟨h, g, d, t', os⟩) : wpAny (model prog w) A (binaryOp .Add (.str x u) (.str y v)) Q E ⟨h, g, d, t, os⟩ :=
  PyProof.Rows.add_str (s := ⟨h, g, d, t, os⟩) (fun u t' => q u t') (by rw [sizeLine_eq]; omega)
theorem strs_from : ∀ (tk : Nat) (xs : List Str), StrsAre (strsFrom tk xs) xs
  | _, [] => .nil
  | tk, x :: r => by
    have ih := strs_from (tk + 1) r
    refine ⟨by simp [strsFrom, ih.1], fun i y e => ?_⟩
    cases i with
    | zero => cases e; exact ⟨tk, rfl⟩
    | succ i => exact ih.2 i y e
theorem r_split {x y : Str} {u v : Tok} {Q : Value → Shared → Prop} (S : St b env wc m cm own h) (hx : x.length ≤ 1000) (h1 : (decide (x.length < y.length) || decide (PySem.Builtin.Str.strKind x < PySem.Builtin.Str.strKind y)) = false) (hy : (y.length == 0) = false)
    (hf : (PySem.Builtin.Str.occurrences x y 0 x.length (x.length + 1)).isEmpty = false) (hz : (PySem.Builtin.Str.partsBetween x (PySem.Builtin.Str.occurrences x y 0 x.length (x.length + 1)) y.length).length ≤ 1000)
    (q : ∀ D b' vs h' t', Kp b b' → St b' env wc m cm own h' → b'.get? D = some { cls := .type "list", data := .seq (List.toArray vs) } → StrsAre vs (Txt.split x y) → Q (.ref D) ⟨h', g, d, t', os⟩) : wpAny (model prog w) A (call (.builtin "str.split") [.str x u, .str y v]) Q E ⟨h, g, d, t, os⟩ := by
  have e : Txt.split x y = PySem.Builtin.Str.partsBetween x (PySem.Builtin.Str.occurrences x y 0 x.length (x.length + 1)) y.length := by
    unfold Txt.split; rw [if_neg (ne_true_of_eq_false h1), if_neg (ne_true_of_eq_false hf)]
  refine call_meets F.slot_str_split (typeIs_str _ _ _) F.entry_str_split (F.args_str_split_2 _ _) (meets_str_split_sep x y u v h1 hy hf (by rw [sizeLine_eq]; omega) (by rw [sizeLine_eq]; omega)) ?_
  obtain ⟨b', k, S', hb⟩ := S.pushB (o := { cls := .type "list", data := .seq (strsFrom t (PySem.Builtin.Str.partsBetween x (PySem.Builtin.Str.occurrences x y 0 x.length (x.length + 1)) y.length)).toArray }) rfl
  exact q _ b' _ _ _ k S' hb (e ▸ strs_from t _)

def mnV (val : Nat → Int) : Nat → Int
  | 0 => val 0
  | k + 1 => min (mnV val k) (val (k + 1))
theorem ints_items : ∀ {vs : List Value} {ns : List Int}, IntsAre vs ns → ∃ xs : List (Int × Tok), vs = xs.map (fun p => .int p.1 p.2) ∧ ns = xs.map (·.1)
  | _, _, .nil => ⟨[], rfl, rfl⟩
  | _, _, .cons n u r => by
    obtain ⟨xs, h1, h2⟩ := ints_items r
    exact ⟨(n, u) :: xs, by rw [h1]; rfl, by rw [h2]; rfl⟩
theorem best_mx (val : Nat → Int) : ∀ k, val (argBest (fun i j => decide (val i > val j)) k) = mxV val k
  | 0 => rfl
  | k + 1 => by
    have ih := best_mx val k
    by_cases hb : val (k + 1) > val (argBest (fun i j => decide (val i > val j)) k)
    · have : argBest (fun i j => decide (val i > val j)) (k + 1) = k + 1 := by simp only [argBest]; rw [if_pos (decide_eq_true hb)]
      rw [this]; simp only [mxV]; omega
    · have : argBest (fun i j => decide (val i > val j)) (k + 1) = argBest (fun i j => decide (val i > val j)) k := by simp only [argBest]; rw [if_neg (by simpa using hb)]
      rw [this]; simp only [mxV]; omega
theorem best_mn (val : Nat → Int) : ∀ k, val (argBest (fun i j => decide (val i < val j)) k) = mnV val k
  | 0 => rfl
  | k + 1 => by
    have ih := best_mn val k
    by_cases hb : val (k + 1) < val (argBest (fun i j => decide (val i < val j)) k)
    · have : argBest (fun i j => decide (val i < val j)) (k + 1) = k + 1 := by simp only [argBest]; rw [if_pos (decide_eq_true hb)]
      rw [this]; simp only [mnV]; omega
    · have : argBest (fun i j => decide (val i < val j)) (k + 1) = argBest (fun i j => decide (val i < val j)) k := by simp only [argBest]; rw [if_neg (by simpa using hb)]
      rw [this]; simp only [mnV]; omega
theorem mnV_congr {f f' : Nat → Int} : ∀ k, (∀ i, i ≤ k → f i = f' i) → mnV f k = mnV f' k
  | 0, h => h 0 (Nat.le_refl _)
  | k + 1, h => by simp only [mnV]; rw [mnV_congr k fun i hi => h i (by first | assumption | exact Nat.le_trans (by assumption) (by decide) | exact Nat.lt_of_lt_of_le (by assumption) (by decide) | exact Int.natCast_nonneg _ | exact Int.ofNat_lt.mpr (lt4 (by assumption)) | exact dep (by assumption) (by decide) | omega), h (k + 1) (Nat.le_refl _)]
def mxL (ns : List Int) : Int := mxV (fun i => ns.getD i 0) (ns.length - 1)
def mnL (ns : List Int) : Int := mnV (fun i => ns.getD i 0) (ns.length - 1)
theorem numAt_eq (xs : List (Int × Tok)) (i : Nat) : numAt xs.toArray i = (xs.map (·.1)).getD i 0 := by
  simp only [numAt, List.getD_eq_getElem?_getD, List.getElem?_map, List.getElem?_toArray]
theorem r_maxL {a : Addr} {vs : List Value} {ns : List Int} {Q : Value → Shared → Prop} (hh : A.handled = none) (S : St b env wc m cm own h) (hl : h.IsList a vs.toArray) (hi : IntsAre vs ns) (hn : 0 < ns.length)
    (q : ∀ u h' t', St b env wc m cm own h' → Q (.int (mxL ns) u) ⟨h', g, d, t', os⟩) : wpAny (model prog w) A (call (.builtin "max") [.ref a]) Q E ⟨h, g, d, t, os⟩ := by
  obtain ⟨xs, rfl, rfl⟩ := ints_items hi
  have e : (xs.map fun p => Value.int p.1 p.2).toArray = intItems xs.toArray := by simp [intItems]
  rw [e] at hl
  have hx : 0 < xs.length := by simpa using hn
  refine max_intList (s := ⟨h, g, d, t, os⟩) hh hl (by simpa using hx) fun v h' tk hv k => ?_
  obtain ⟨u, rfl⟩ := intItems_at hv
  have := q u h' tk (S.kp k)
  have e2 : mxL (xs.map (·.1)) = numAt xs.toArray (argBest (fun i j => decide (numAt xs.toArray i > numAt xs.toArray j)) (xs.toArray.size - 1)) := by
    rw [best_mx (fun i => numAt xs.toArray i)]; unfold mxL
    rw [List.length_map, List.size_toArray]
    exact mxV_congr _ fun i _ => (numAt_eq xs i).symm
  rw [e2] at this
  exact this
theorem r_minL {a : Addr} {vs : List Value} {ns : List Int} {Q : Value → Shared → Prop} (hh : A.handled = none) (S : St b env wc m cm own h) (hl : h.IsList a vs.toArray) (hi : IntsAre vs ns) (hn : 0 < ns.length)
    (q : ∀ u h' t', St b env wc m cm own h' → Q (.int (mnL ns) u) ⟨h', g, d, t', os⟩) : wpAny (model prog w) A (call (.builtin "min") [.ref a]) Q E ⟨h, g, d, t, os⟩ := by
  obtain ⟨xs, rfl, rfl⟩ := ints_items hi
  have e : (xs.map fun p => Value.int p.1 p.2).toArray = intItems xs.toArray := by simp [intItems]
  rw [e] at hl
  have hx : 0 < xs.length := by simpa using hn
  refine min_intList (s := ⟨h, g, d, t, os⟩) hh hl (by simpa using hx) fun v h' tk hv k => ?_
  obtain ⟨u, rfl⟩ := intItems_at hv
  have := q u h' tk (S.kp k)
  have e2 : mnL (xs.map (·.1)) = numAt xs.toArray (argBest (fun i j => decide (numAt xs.toArray i < numAt xs.toArray j)) (xs.toArray.size - 1)) := by
    rw [best_mn (fun i => numAt xs.toArray i)]; unfold mnL
    rw [List.length_map, List.size_toArray]
    exact mnV_congr _ fun i _ => (numAt_eq xs i).symm
  rw [e2] at this
  exact this

/-- two lists of threes, the same -/
def triD (x : Int × Int × Int) : PyData := .tuple [.int x.1, .int x.2.1, .int x.2.2]
theorem Tris.reads {h₀ h : Heap} : ∀ {vs : List Value} {xs : List (Int × Int × Int)}, Tris h₀ h vs xs → ∃ as, ReadsAll h vs (xs.map triD) as
  | _, _, .nil => ⟨[], .nil⟩
  | _, _, .cons (x := x) u1 u2 u3 e n r => by
    obtain ⟨as, ra⟩ := r.reads
    exact ⟨_, .cons (reads_tuple_at e rfl rfl (.cons (.int _ u1) (.cons (.int _ u2) (.cons (.int _ u3) .nil)))) ra⟩
theorem tri_can : ∀ xs : List (Int × Int × Int), PyData.canLayAll0 (xs.map triD) = true
  | [] => rfl
  | _ :: r => by simp [triD, PyData.canLayAll0, PyData.canLay0, tri_can r]
theorem tri_depth : ∀ xs : List (Int × Int × Int), PyData.depthAll (xs.map triD) ≤ 1
  | [] => Nat.zero_le _
  | _ :: r => by
    have := tri_depth r
    simp only [List.map_cons, triD, PyData.depthAll, PyData.depth]; omega
theorem tri_shaped (xs : List (Int × Int × Int)) : SeqAt.shaped (.list (xs.map triD)) = true := by
  have h := tri_depth xs
  unfold SeqAt.shaped
  rw [show PyData.canLay0 (.list (xs.map triD)) = true from (by rw [PyData.canLay0]; exact tri_can xs), Bool.true_and]
  exact decide_eq_true (by rw [PyData.depth]; omega)
theorem tri_eqv : ∀ xs : List (Int × Int × Int), PyData.eqvAll (xs.map triD) (xs.map triD) = true
  | [] => rfl
  | _ :: r => by simp [triD, PyData.eqvAll, PyData.eqv, tri_eqv r]
theorem r_neTris {h₁ h₂ : Heap} {a a2 : Addr} {vs ws : List Value} {n1 n2 : Nat} {xs : List (Int × Int × Int)} {Q : Value → Shared → Prop} (hu : A.units + 64 < cLine) (ha : h.get? a = some { cls := .type "list", data := .seq vs.toArray n1 }) (ha2 : h.get? a2 = some { cls := .type "list", data := .seq ws.toArray n2 })
    (ht : Tris h₁ h vs xs) (ht2 : Tris h₂ h ws xs) (q : Q (.bool false) ⟨h, g, d, t, os⟩) : wpAny (model prog w) A (compareOp .NotEq (.ref a) (.ref a2)) Q E ⟨h, g, d, t, os⟩ := by
  obtain ⟨as, ra⟩ := ht.reads
  obtain ⟨bs, rb⟩ := ht2.reads
  refine ne_dataH (s := ⟨h, g, d, t, os⟩) (reads_list_at ha rfl rfl ra) (reads_list_at ha2 rfl rfl rb) (tri_shaped xs) (tri_shaped xs) hu ?_
  rw [PyData.eqv, tri_eqv]
  exact q
/-- a table's value under a key that is there -/
theorem r_subD {value slice : Expr} {a : Addr} {o : Obj} {kvs : List (Str × Value)} {x : Str} {u : Tok} {v : Value} {Q : Value → Shared → Prop} (ho : h.get? a = some o) (hD : isD (PySem.strKind prog w) kvs o) (hv : valueAt kvs x = some v) (q : ∀ t', Q v ⟨h, g, d, t', os⟩)
    (hs : subscripted slice false (.ref a) (.str x u) = operate [.ref a, .str x u] (getItem (.ref a) (.str x u)) := by with_unfolding_all rfl) : wpAny (model prog w) A (subscriptTail value slice (.ref a) (.str x u)) Q E ⟨h, g, d, t, os⟩ := by
  have hd : h.DictOf (PySem.strKind prog w) a kvs := Heap.dictOf_iff.mpr ⟨o, ho, hD⟩
  exact tail_any (s := ⟨h, g, d, t, os⟩) hd.mapOf.typeIs slot_dict_getitem.lookup (wpAny_getItem_of (PySem.strKind_is prog w x u) hd.mapOf hv (q _)) hs
end Mine

open PySem PySem.W PyProof.Rows PySem.Calls
set_option Elab.async false
set_option linter.unusedVariables false
set_option maxRecDepth 100000
namespace Mine
def tabS : Str := Str.ofString "\t"
def runsF (t h : Str) : List Str := Txt.split ((t ++ tabS) ++ h) tabS
def lensF (t h : Str) : List Int := (runsF t h).map fun r => (r.length : Int)
def agN (t h : Str) (n : Nat) : List (Int × Int × Int) := (List.range n).filterMap fun (j : Nat) =>
  if colF h.cps.toList (1 + (j : Int)) ≤ colF t.cps.toList (1 + (j : Int)) then some (1 + (j : Int), colF t.cps.toList (1 + (j : Int)), colF h.cps.toList (1 + (j : Int))) else none
def agF (t h : Str) : List (Int × Int × Int) := agN t h (mxL (lensF t h) + 1).toNat
def cst (t h : Str) : Int := 2 * chF t h + ((agF t h).length : Int)
theorem tb_ag : ∀ t ∈ leadL, ∀ h ∈ leadL, agF t h = nlwF t h := by decide +kernel
theorem tb_runs : ∀ t ∈ leadL, ∀ h ∈ leadL, 0 < (runsF t h).length ∧ (runsF t h).length ≤ 10 ∧ (∀ r ∈ runsF t h, r.length ≤ 10) ∧ 0 ≤ mxL (lensF t h) ∧ mxL (lensF t h) ≤ 2 := by decide +kernel
theorem tb_parts : ∀ t ∈ leadL, ∀ h ∈ leadL, (PySem.Builtin.Str.partsBetween ((t ++ tabS) ++ h) (PySem.Builtin.Str.occurrences ((t ++ tabS) ++ h) tabS 0 ((t ++ tabS) ++ h).length (((t ++ tabS) ++ h).length + 1)) tabS.length).length ≤ 10 ∧ ((t ++ tabS) ++ h).length ≤ 10 ∧ (t ++ tabS).length + h.length ≤ 10 ∧ t.length + tabS.length ≤ 10 := by decide +kernel
theorem tb_cst : ∀ t ∈ leadL, ∀ h ∈ leadL, 0 ≤ cst t h ∧ cst t h ≤ 10 ∧ -100 ≤ chF t h ∧ chF t h ≤ 100 := by decide +kernel
theorem tb_split : ∀ t ∈ leadL, ∀ h ∈ leadL, (decide (((t ++ tabS) ++ h).length < tabS.length) || decide (PySem.Builtin.Str.strKind ((t ++ tabS) ++ h) < PySem.Builtin.Str.strKind tabS)) = false ∧ (PySem.Builtin.Str.occurrences ((t ++ tabS) ++ h) tabS 0 ((t ++ tabS) ++ h).length (((t ++ tabS) ++ h).length + 1)).isEmpty = false := by decide +kernel
theorem tab_ne : (tabS.length == 0) = false := by decide +kernel
end Mine

open PySem PySem.W PyProof.Rows PySem.Calls
set_option Elab.async false
set_option linter.unusedVariables false
set_option maxRecDepth 100000
namespace Mine
variable {prog : Program} {w : World} {A : Around} {E : Value → Shared → Prop} {mg mb : Str → Option Value}
variable {b h : Heap} {env : Env} {wc : List (Str × Addr)} {m cm : Str → Option Value} {own : Own} {g : Array GenState} {d : Drawn} {t : Nat} {os : OsState}
variable {R : Result → Shared → Prop}

def forBody : Stmt → List Stmt
  | .For _ _ body _ _ => body
  | _ => []
def nthS (l : List Stmt) (n : Nat) : Stmt := l.getD n (.Pass ⟨0, 0, 0, 0⟩)
def lawB1 : List Stmt := forBody (nthS lawBody 8)
def lawB2 : List Stmt := forBody (nthS lawB1 1)

/-- what is laid before the loops -/
structure Env0 (w : World) (prog : Program) (b : Heap) (m : Str → Option Value) (hs ts : List Str) : Prop where
  fh : FH b m hs ts
  fs : FS w prog b m (hs ++ ts)
  ff : FW w.params b m (Str.ofString "fronts") hs
  fe : FW w.params b m (Str.ofString "ends") ts
theorem Env0.kp {b b' : Heap} {m m' : Str → Option Value} {hs ts : List Str} (f : Env0 w prog b m hs ts) (k : Kp b b') (e1 : m' (Str.ofString "heads") = m (Str.ofString "heads")) (e2 : m' (Str.ofString "tails") = m (Str.ofString "tails")) (e3 : m' (Str.ofString "stops") = m (Str.ofString "stops"))
    (e4 : m' (Str.ofString "fronts") = m (Str.ofString "fronts")) (e5 : m' (Str.ofString "ends") = m (Str.ofString "ends")) : Env0 w prog b' m' hs ts :=
  ⟨FH.kp k e1 e2 f.fh, FS.kp k e3 f.fs, FW.kp k e4 f.ff, FW.kp k e5 f.fe⟩
structure AgJ (w : World) (prog : Program) (b0 b : Heap) (m cm₀ cm : Str → Option Value) (hs ts : List Str) (x y : Str) (u : Nat) (tu : Tok) (aa : Addr) (n : Nat) (vs : List Value) : Prop where
  hA : Tris b0 b vs (agN x y n)
  hcm : cm = cm₀
  hE : Env0 w prog b m hs ts
  mu : m (Str.ofString "u") = some (.int u tu)
  ma : m (Str.ofString "against") = some (.ref aa)
theorem cols_get {vs : List Value} {cs : List Nat} (hI : IntsAre vs [colF cs 1, colF cs 2, colF cs 3]) {i : Nat} (hi : i < 3) : ∃ u, vs[(1 + (i : Int) - 1).toNat]? = some (.int (colF cs (1 + (i : Int))) u) := by
  have e : (1 + (i : Int) - 1).toNat = i := by omega
  rw [e]
  obtain ⟨u, hu⟩ := ints_get i hI hi
  refine ⟨u, hu.trans ?_⟩
  have : i = 0 ∨ i = 1 ∨ i = 2 := by omega
  rcases this with rfl | rfl | rfl <;> rfl
theorem agN_succ (t h : Str) (n : Nat) : agN t h (n + 1) = agN t h n ++ (if colF h.cps.toList (1 + (n : Int)) ≤ colF t.cps.toList (1 + (n : Int)) then [(1 + (n : Int), colF t.cps.toList (1 + (n : Int)), colF h.cps.toList (1 + (n : Int)))] else []) := by
  unfold agN
  rw [List.range_succ, List.filterMap_append]
  congr 1
  by_cases hc : colF h.cps.toList (1 + (n : Int)) ≤ colF t.cps.toList (1 + (n : Int)) <;> simp [hc]
theorem agN_len (t h : Str) (n : Nat) : (agN t h n).length ≤ n := by
  unfold agN
  exact Nat.le_trans (List.length_filterMap_le _ _) (by rw [List.length_range]; exact Nat.le_refl _)

set_option maxHeartbeats 8000000 in
theorem cellW {hs ts : List Str} {L fa Iv Iu ra ca : Addr} {cd : Value} {Pv Pu : Obj → Prop} {row refs : List Value} {ri : List Int} {u v : Nat} {tu tv : Tok} {x y : Str} {Q : Flow → Shared → Prop} (U : Up w mg mb b) (S : St b (lawEnv L fa cd) (lawCells L) m cm [(Iv, Pv), (ra, isL row), (Iu, Pu), (ca, isL refs)] h)
    (hE : Env0 w prog b m hs ts) (hx : ts[u]? = some x) (hy : hs[v]? = some y) (hxl : x ∈ leadL) (hyl : y ∈ leadL) (hu4 : u < 4) (hv4 : v < 4) (mu : m (Str.ofString "u") = some (.int u tu)) (cv : cm (Str.ofString "v") = some (.int v tv)) (cc : cm (Str.ofString "costs") = some (.ref ca))
    (href : refs[u]? = some (.ref ra)) (hrl : row.length ≤ 10) (hI : IntsAre row ri) (hh : A.handled = none) (hr : A.depth + 100 < recursionLimit) (hun : A.units + 70 < cLine)
    (q : ∀ b' m' row' h' t', Kp b b' → St b' (lawEnv L fa cd) (lawCells L) m' cm [(Iv, Pv), (ra, isL row'), (Iu, Pu), (ca, isL refs)] h' → IntsAre row' (ri ++ [cst x y]) → Env0 w prog b' m' hs ts → m' (Str.ofString "u") = some (.int u tu) → Q .next ⟨h', g, d, t', os⟩) :
    wpAny (model prog w) A (execs lawB2 (lawEnv L fa cd)) Q E ⟨h, g, d, t, os⟩ := by
  have lx := lead_len x hxl
  have ly := lead_len y hyl
  obtain ⟨p1, p2, p3, p4⟩ := tb_parts x hxl y hyl
  obtain ⟨q1, q2⟩ := tb_split x hxl y hyl
  obtain ⟨r1, r2, r3, r4, r5⟩ := tb_runs x hxl y hyl
  obtain ⟨ha, hv, ta, tv', mh, hhd, hhs, mt, htd, hts⟩ := hE.fh
  obtain ⟨ux, hux⟩ := hts.2 _ _ hx
  obtain ⟨uy, huy⟩ := hhs.2 _ _ hy
  refine wpAny_execs_cons (wpAny_Assign_Name (MethodCall_ (wpAny_BinOp (wpAny_BinOp (Subscript_ (r_nm S rfl mt (r_nm S rfl mu (r_ix (list_kp htd.isList S.keep) (lt4 hu4) hux (r_str fun k1 t => r_addS (by exact Nat.le_trans p4 (by decide)) fun k2 t => Subscript_ (r_nm S rfl mh (r_nmc S rfl rfl cv (r_ix (list_kp hhd.isList S.keep) (lt4 hv4) huy (r_addS (by exact Nat.le_trans p3 (by decide)) fun k3 t => GM.split (callWith_method1 (r_arg1 (r_str fun k4 t => ?_))))))))))))))))
  refine r_split S (by exact Nat.le_trans p2 (by decide)) q1 tab_ne q2 (by exact Nat.le_trans p1 (by decide)) fun D b1 vsR h₁ t₁ kb1 S hD hR => r_st S rfl fun h₁ t₁ S => ?_
  have U := U.kp kb1
  refine wpAny_execs_cons (wpAny_Assign_Name (r_list0 (r_newL S (by simp) fun aa h₁ S hna => r_st S rfl fun h₁ t₁ S => ?_)))
  have hRl : vsR.length = (runsF x y).length := hR.1
  have hE1 : Env0 w prog b1 (upd (upd m (Str.ofString "runs") (.ref D)) (Str.ofString "against") (.ref aa)) hs ts := hE.kp kb1 rfl rfl rfl rfl rfl
  refine wpAny_execs_cons (wpAny_For (r_t2 U S rfl rfl Boot.range (r_int fun k1 t => wpAny_BinOp (r_b1 U S rfl rfl Boot.max (r_lc rfl rfl rfl (r_nm S rfl rfl (r_iterL S (obj_list (S.keep _ _ hD)) fun I h₄ S hIt hLs hne => ?_)))))))
  refine compW (Walks.list (by exact hh) I _ hne vsR.toArray) (listfp hIt hLs) (fun i h q => listI q.1) S ⟨hIt, hLs⟩ (ClOk.all trivial) rfl rfl rfl (by rw [List.size_toArray, hRl, sizeLine_eq]; omega)
    (fun _ i _ ys => IntsAre ys ((lensF x y).take i)) (fun _ _ _ => .nil) ?_ ?_
  · rintro i vv bc C D2 b₁ m₁ ys h₁ t₁ oI E' Q' Z' hi hP kb Sb kb₁ hJ hx2 S hQ hZ
    obtain ⟨r, k2, hr', rfl⟩ := hR.of (by simpa using hP)
    have hr' : (runsF x y)[i]? = some r := hr'
    have hrl := r3 r (List.mem_of_getElem? hr')
    have U := (U.kp kb).kp kb₁
    refine wpAny_tests_nil ?_
    rw [if_pos rfl]
    refine r_b1 U S rfl rfl Boot.len (r_nm S rfl hx2 (r_lenS (by first | assumption | exact Nat.le_trans (by assumption) (by decide) | exact Nat.lt_of_lt_of_le (by assumption) (by decide) | exact Int.natCast_nonneg _ | exact Int.ofNat_lt.mpr (lt4 (by assumption)) | exact dep (by assumption) (by decide) | omega) fun k3 t => (hQ _ _ _ _ _ (Kp.refl _) S ?_)))
    rw [take_snoc (x := (r.length : Int)) (by unfold lensF; rw [List.getElem?_map, hr']; rfl)]
    exact ints_snoc hJ
  intro bc b₁ b2 C D2 ys h' t' hJ kb kb2 hn hD2 hL S
  refine post_none S fun h' S => ?_
  have elen : (lensF x y).take vsR.toArray.size = lensF x y := List.take_of_length_le (by rw [List.size_toArray, hRl]; unfold lensF; rw [List.length_map]; exact Nat.le_refl _)
  rw [elen] at hJ
  have U := U.kp kb2
  have hE2 := hE1.kp (m' := upd (upd m (Str.ofString "runs") (.ref D)) (Str.ofString "against") (.ref aa)) kb2 rfl rfl rfl rfl rfl
  have kbb := kb1.trans kb2
  clear hn hD2 kb hE1
  have hn3 : (mxL (lensF x y) + 1).toNat ≤ 3 := by omega
  refine r_maxL (by exact hh) S (list_kp hL.isList S.keep) hJ (by unfold lensF; rw [List.length_map]; exact r1) fun k2 h₁ t₁ S => r_int fun k3 t => r_add fun k4 t => r_range2 (n := (mxL (lensF x y) + 1).toNat) S (by first | assumption | exact Nat.le_trans (by assumption) (by decide) | exact Nat.lt_of_lt_of_le (by assumption) (by decide) | exact Int.natCast_nonneg _ | exact Int.ofNat_lt.mpr (lt4 (by assumption)) | exact dep (by assumption) (by decide) | omega) (by first | assumption | exact Nat.le_trans (by assumption) (by decide) | exact Nat.lt_of_lt_of_le (by assumption) (by decide) | exact Int.natCast_nonneg _ | exact Int.ofNat_lt.mpr (lt4 (by assumption)) | exact dep (by assumption) (by decide) | omega) (by first | assumption | exact Nat.le_trans (by assumption) (by decide) | exact Nat.lt_of_lt_of_le (by assumption) (by decide) | exact Int.natCast_nonneg _ | exact Int.ofNat_lt.mpr (lt4 (by assumption)) | exact dep (by assumption) (by decide) | omega) (by first | assumption | exact Nat.le_trans (by assumption) (by decide) | exact Nat.lt_of_lt_of_le (by assumption) (by decide) | exact Int.natCast_nonneg _ | exact Int.ofNat_lt.mpr (lt4 (by assumption)) | exact dep (by assumption) (by decide) | omega) (by first | assumption | exact Nat.le_trans (by assumption) (by decide) | exact Nat.lt_of_lt_of_le (by assumption) (by decide) | exact Int.natCast_nonneg _ | exact Int.ofNat_lt.mpr (lt4 (by assumption)) | exact dep (by assumption) (by decide) | omega) fun I h₁ t₁ S hIr => ?_
  refine loopW (Walks.range (by exact hh) I 1 1 _) (fun a ha q => absurd (List.mem_singleton.mp ha) q) (fun i h q => rangeI q) S hIr
    (fun i b₁ m₁ cm₁ own₁ => ∃ vsA, own₁ = [(aa, isL vsA), (Iv, Pv), (ra, isL row), (Iu, Pu), (ca, isL refs)] ∧ AgJ w prog b b₁ m₁ cm cm₁ hs ts x y u tu aa i vsA)
    ⟨[], rfl, .nil, rfl, hE2, mu, rfl⟩ ?_ ?_
  · clear S hE2 hE mh mt hhd hhs htd hts hux huy
    rintro i vv b₃ m₃ cm₃ own₃ h₃ t₃ oI Q' E' hi ⟨k5, rfl⟩ kb3 ⟨vsA, rfl, hA, rfl, hE3, mu3, ma3⟩ S hQ
    have ei : (1 : Int) + (i : Int) * 1 = 1 + i := ei1 _
    rw [ei]
    have U := U.kp kb3
    obtain ⟨ha, hv, ta, tv', mh, hhd, hhs, mt, htd, hts⟩ := hE3.fh
    obtain ⟨sa, so, kvs, ms, hso, hsD, hcols⟩ := hE3.fs
    obtain ⟨ux, hux⟩ := hts.2 _ _ hx
    obtain ⟨uy, huy⟩ := hhs.2 _ _ hy
    obtain ⟨lax, vx, gx1, gx2, gx3⟩ := hcols x (List.mem_append_right _ (List.mem_of_getElem? hx))
    obtain ⟨lay, vy, gy1, gy2, gy3⟩ := hcols y (List.mem_append_left _ (List.mem_of_getElem? hy))
    obtain ⟨cx, hcx⟩ := cols_get gx3 (show i < 3 by omega)
    obtain ⟨cy, hcy⟩ := cols_get gy3 (show i < 3 by omega)
    refine r_as S rfl fun h₁ t₁ S => ?_
    refine wpAny_execs_cons (Assign_Tuple_swapped (names := [Str.ofString "here", Str.ofString "there"]) (r_tuple2 (Subscript_ (Subscript_ (r_nm S rfl ms (Subscript_ (r_nm S rfl mt (r_nm S rfl mu3 (r_ix (list_kp htd.isList S.keep) (lt4 hu4) hux (r_subD (S.keep _ _ hso) hsD gx1 fun t => wpAny_BinOp (r_nm S rfl rfl (r_int fun k1 t => r_sub fun k2 t => r_subL (list_kp gx2.isList S.keep) (by first | assumption | exact Nat.le_trans (by assumption) (by decide) | exact Nat.lt_of_lt_of_le (by assumption) (by decide) | exact Int.natCast_nonneg _ | exact Int.ofNat_lt.mpr (lt4 (by assumption)) | exact dep (by assumption) (by decide) | omega) (by first | assumption | exact Nat.le_trans (by assumption) (by decide) | exact Nat.lt_of_lt_of_le (by assumption) (by decide) | exact Int.natCast_nonneg _ | exact Int.ofNat_lt.mpr (lt4 (by assumption)) | exact dep (by assumption) (by decide) | omega) (by simpa using hcx) ?_))))))))))))
    refine Subscript_ (Subscript_ (r_nm S rfl ms (Subscript_ (r_nm S rfl mh (r_nmc S rfl rfl cv (r_ix (list_kp hhd.isList S.keep) (lt4 hv4) huy (r_subD (S.keep _ _ hso) hsD gy1 fun t => wpAny_BinOp (r_nm S rfl rfl (r_int fun k3 t => r_sub fun k4 t => r_subL (list_kp gy2.isList S.keep) (by first | assumption | exact Nat.le_trans (by assumption) (by decide) | exact Nat.lt_of_lt_of_le (by assumption) (by decide) | exact Int.natCast_nonneg _ | exact Int.ofNat_lt.mpr (lt4 (by assumption)) | exact dep (by assumption) (by decide) | omega) (by first | assumption | exact Nat.le_trans (by assumption) (by decide) | exact Nat.lt_of_lt_of_le (by assumption) (by decide) | exact Int.natCast_nonneg _ | exact Int.ofNat_lt.mpr (lt4 (by assumption)) | exact dep (by assumption) (by decide) | omega) (by simpa using hcy) ?_)))))))))
    refine r_newT S (by simp) fun tp b4 h₁ kb4 S htp _ => r_swap2 S (by exact hh) ⟨_, S.keep _ _ htp, rfl, _, rfl⟩ rfl rfl fun h₁ t₁ S => ?_
    have U := U.kp kb4
    have hE4 := hE3.kp (m' := upd (upd (upd m₃ (Str.ofString "size") (.int (1 + (i : Int)) k5)) (Str.ofString "there") (.int (colF y.cps.toList (1 + (i : Int))) cy)) (Str.ofString "here") (.int (colF x.cps.toList (1 + (i : Int))) cx)) kb4 rfl rfl rfl rfl rfl
    have al := hA.length
    have al2 := agN_len x y i
    refine wpAny_execs_cons (wpAny_If (wpAny_isTrue_Compare1 (r_nm S rfl rfl (r_nm S rfl rfl (r_geI (wpAny_truthy_bool ?_))))))
    by_cases hge : colF y.cps.toList (1 + (i : Int)) ≤ colF x.cps.toList (1 + (i : Int))
    · rw [if_pos (by simpa using hge)]
      refine wpAny_execs_cons (r_append (fun Q1 h1 => r_nm S rfl ma3 (h1 aa _ _ _ _ _ _ 1 vsA S rfl (by first | assumption | exact Nat.le_trans (by assumption) (by decide) | exact Nat.lt_of_lt_of_le (by assumption) (by decide) | exact Int.natCast_nonneg _ | exact Int.ofNat_lt.mpr (lt4 (by assumption)) | exact dep (by assumption) (by decide) | omega) fun Q2 h2 => r_tuple3 (r_nm S rfl rfl (r_nm S rfl rfl (r_nm S rfl rfl (r_newT S (by simp) fun tq b5 h₂ kb5 S2 htq hntq => (h2 _ _ _ _ _ _ _ 1 vsA S2 rfl (by first | assumption | exact Nat.le_trans (by assumption) (by decide) | exact Nat.lt_of_lt_of_le (by assumption) (by decide) | exact Int.natCast_nonneg _ | exact Int.ofNat_lt.mpr (lt4 (by assumption)) | exact dep (by assumption) (by decide) | omega) fun h₃ S3 => ?_))))))) rfl ⟨_, rfl⟩ rfl rfl)
      refine wpAny_execs_nil (wpAny_execs_nil (hQ _ _ _ _ _ _ (kb4.trans kb5) S3 ⟨_, rfl, ?_, rfl, hE4.kp kb5 rfl rfl rfl rfl rfl, mu3, ma3⟩))
      rw [agN_succ, if_pos hge]
      exact (hA.kp (kb4.trans kb5)).snoc htq (none_of_kp ((kbb.trans (kb3.trans kb4)).trans S.keep) hntq)
    · rw [if_neg (by simpa using hge)]
      refine wpAny_execs_nil (wpAny_execs_nil (hQ _ _ _ _ _ _ kb4 S ⟨_, rfl, ?_, rfl, hE4, mu3, ma3⟩))
      rw [agN_succ, if_neg hge, List.append_nil]
      exact hA.kp kb4
  · clear S hE2 hE mh mt hhd hhs htd hts hux huy
    rintro b₃ m₃ cm₃ own₃ h₃ t₃ kb3 ⟨vsA, rfl, hA, rfl, hE3, mu3, ma3⟩ S
    have U := U.kp kb3
    have kbc := kbb.trans kb3
    have hA : Tris b b₃ vsA (agF x y) := hA
    obtain ⟨ha, hv, ta, tv', mh, hhd, hhs, mt, htd, hts⟩ := hE3.fh
    obtain ⟨fra, frv, fr0, mfr, hfrd, hfrs⟩ := hE3.ff
    obtain ⟨ena, env', en0, men, hend, hens⟩ := hE3.fe
    obtain ⟨ux, hux⟩ := hts.2 _ _ hx
    obtain ⟨uy, huy⟩ := hhs.2 _ _ hy
    obtain ⟨px, hpx, Wx⟩ := hens.2 _ _ hx
    obtain ⟨py, hpy, Wy⟩ := hfrs.2 _ _ hy
    obtain ⟨qw, hxo, hdx, -, -, -, -, -, -, -⟩ := id Wx
    have hr' : A.depth + 40 < recursionLimit := by omega
    refine wpAny_execs_cons (wpAny_If (wpAny_isTrue_Compare1 (MethodCall_ (Subscript_ (r_nm S rfl men (r_nm S rfl mu3 (r_ix (list_kp hend.isList S.keep) (lt4 hu4) hpx (r_meth (U.kp S.keep) (S.keep _ _ hxo) (S.keep _ _ hdx) rfl rfl rfl (callWith_meth (h₀ := b₃) rfl (U.kin _ _ rfl) (r_arg1 (Subscript_ (r_nm S rfl mfr (r_nmc S rfl rfl cv (r_ix (list_kp hfrd.isList S.keep) (lt4 hv4) hpy ⟨S.keep, ?_⟩))))))))))))))
    refine wpAny_call (nlw_ok (U.kp S.keep) hr' hh (by first | assumption | exact Nat.le_trans (by assumption) (by decide) | exact Nat.lt_of_lt_of_le (by assumption) (by decide) | exact Int.natCast_nonneg _ | exact Int.ofNat_lt.mpr (lt4 (by assumption)) | exact dep (by assumption) (by decide) | omega) (by first | assumption | exact Nat.le_trans (by assumption) (by decide) | exact Nat.lt_of_lt_of_le (by assumption) (by decide) | exact Int.natCast_nonneg _ | exact Int.ofNat_lt.mpr (lt4 (by assumption)) | exact dep (by assumption) (by decide) | omega) (Wx.kp S.keep) (Wy.kp S.keep) fun na nvs h₁ t₁ k₁ hP hn hT => ?_)
    obtain ⟨nP, hP⟩ := hP
    have S := S.kp k₁
    obtain ⟨oA, hoA, nA, rfl⟩ := S.at (i := 0) rfl
    refine r_nm S rfl ma3 (r_neTris (by show A.units + 64 < cLine; omega) hP hoA hT ((tb_ag x hxl y hyl) ▸ hA.kp S.keep) (wpAny_truthy_bool ?_))
    rw [if_neg (by decide)]
    refine wpAny_execs_nil ?_
    refine wpAny_execs_cons (wpAny_Assign_Name (wpAny_BinOp (r_int fun k1 t => wpAny_Call_NameR (r_nmg U S rfl rfl (callWith_def rfl (r_arg2 (Subscript_ (r_nm S rfl mt (r_nm S rfl mu3 (r_ix (list_kp htd.isList S.keep) (lt4 hu4) hux (Subscript_ (r_nm S rfl mh (r_nmc S rfl rfl cv (r_ix (list_kp hhd.isList S.keep) (lt4 hv4) huy ⟨S.keep _ _ (U.kin _ _ rfl), ?_⟩))))))))))))))
    refine wpAny_call (changes_ok (U.kp S.keep) (by first | assumption | exact Nat.le_trans (by assumption) (by decide) | exact Nat.lt_of_lt_of_le (by assumption) (by decide) | exact Int.natCast_nonneg _ | exact Int.ofNat_lt.mpr (lt4 (by assumption)) | exact dep (by assumption) (by decide) | omega) hh (by first | assumption | exact Nat.le_trans (by assumption) (by decide) | exact Nat.lt_of_lt_of_le (by assumption) (by decide) | exact Int.natCast_nonneg _ | exact Int.ofNat_lt.mpr (lt4 (by assumption)) | exact dep (by assumption) (by decide) | omega) (by first | assumption | exact Nat.le_trans (by assumption) (by decide) | exact Nat.lt_of_lt_of_le (by assumption) (by decide) | exact Int.natCast_nonneg _ | exact Int.ofNat_lt.mpr (lt4 (by assumption)) | exact dep (by assumption) (by decide) | omega) fun h₂ t₂ k2 ks => ?_)
    have S := S.kp ks
    refine r_mul (by decide) (by decide) fun k3 t => r_st S rfl fun h₁ t₁ S => ?_
    refine wpAny_execs_cons (wpAny_If (wpAny_isTrue_Compare1 (wpAny_Call_NameR (r_nmg U S rfl rfl (callWith_def rfl (r_arg3 (Subscript_ (r_nm S rfl mt (r_nm S rfl mu3 (r_ix (list_kp htd.isList S.keep) (lt4 hu4) hux (Subscript_ (r_nm S rfl mh (r_nmc S rfl rfl cv (r_ix (list_kp hhd.isList S.keep) (lt4 hv4) huy (r_int fun k4 t => ⟨S.keep _ _ (U.kin _ _ rfl), ?_⟩)))))))))))))))
    refine wpAny_call (lev_ok (U.kp S.keep) hr' hh hxl hyl fun h₂ t₂ k5 ks => ?_)
    have S := S.kp ks
    refine r_nm S rfl rfl (ne_int (wpAny_truthy_bool ?_))
    rw [lev_ch x hxl y hyl, if_neg (by simp)]
    refine wpAny_execs_nil ?_
    obtain ⟨oA, hoA, hPA⟩ := S.at (i := 0) rfl
    obtain ⟨oC, hoC, hPC⟩ := S.at (i := 4) rfl
    have al := hA.length
    have al2 := agN_len x y (mxL (lensF x y) + 1).toNat
    have al3 : (agF x y).length ≤ 3 := Nat.le_trans al2 hn3
    refine wpAny_execs_cons (r_append (fun Q1 h1 => Subscript_ (r_nmc S rfl rfl cc (r_nm S rfl mu3 (r_ix (isL_list hoC hPC) (lt4 hu4) href (h1 ra _ _ _ _ _ _ 2 row S rfl (by first | assumption | exact Nat.le_trans (by assumption) (by decide) | exact Nat.lt_of_lt_of_le (by assumption) (by decide) | exact Int.natCast_nonneg _ | exact Int.ofNat_lt.mpr (lt4 (by assumption)) | exact dep (by assumption) (by decide) | omega) fun Q2 h2 => wpAny_BinOp (r_nm S rfl rfl (r_b1 U S rfl rfl Boot.len (r_nm S rfl ma3 (r_lenL (isL_list hoA hPA) (by first | assumption | exact Nat.le_trans (by assumption) (by decide) | exact Nat.lt_of_lt_of_le (by assumption) (by decide) | exact Int.natCast_nonneg _ | exact Int.ofNat_lt.mpr (lt4 (by assumption)) | exact dep (by assumption) (by decide) | omega) fun k6 t => r_add fun k7 t => (h2 _ _ _ _ _ _ _ 2 row S rfl (by first | assumption | exact Nat.le_trans (by assumption) (by decide) | exact Nat.lt_of_lt_of_le (by assumption) (by decide) | exact Int.natCast_nonneg _ | exact Int.ofNat_lt.mpr (lt4 (by assumption)) | exact dep (by assumption) (by decide) | omega) fun h₃ S3 => ?_)))))))))) rfl ⟨_, rfl⟩ rfl rfl)
    refine wpAny_execs_nil (q _ _ _ _ _ kbc S3.drop1 ?_ (hE3.kp (Kp.refl _) rfl rfl rfl rfl rfl) mu3)
    have e : cst x y = 2 * chF x y + (vsA.length : Int) := by unfold cst; rw [al]
    rw [e]
    exact ints_snoc hI
end Mine

open PySem PySem.W PyProof.Rows PySem.Calls
set_option Elab.async false
set_option linter.unusedVariables false
set_option maxRecDepth 100000
namespace Mine
variable {prog : Program} {w : World} {A : Around} {E : Value → Shared → Prop} {mg mb : Str → Option Value}
variable {b h : Heap} {env : Env} {wc : List (Str × Addr)} {m cm : Str → Option Value} {own : Own} {g : Array GenState} {d : Drawn} {t : Nat} {os : OsState}
variable {R : Result → Shared → Prop}

def RowsAre (b : Heap) (refs : List Value) (rows : List (List Int)) : Prop := refs.length = rows.length ∧ ∀ (i : Nat) (r : List Int), rows[i]? = some r → ∃ a vs, refs[i]? = some (.ref a) ∧ b.PlainList a (List.toArray vs) ∧ IntsAre vs r
theorem RowsAre.kp {b b' : Heap} {refs : List Value} {rows : List (List Int)} (k : Kp b b') (f : RowsAre b refs rows) : RowsAre b' refs rows :=
  ⟨f.1, fun i r e => let ⟨a, vs, h1, h2, h3⟩ := f.2 i r e; ⟨a, vs, h1, plain_kp k h2, h3⟩⟩
theorem RowsAre.snoc {b : Heap} {refs : List Value} {rows : List (List Int)} {a : Addr} {vs : List Value} {r : List Int} (f : RowsAre b refs rows) (hp : b.PlainList a vs.toArray) (hi : IntsAre vs r) : RowsAre b (refs ++ [Value.ref a]) (rows ++ [r]) := by
  refine ⟨by simp [f.1], fun i y e => ?_⟩
  by_cases h : i < rows.length
  · rw [List.getElem?_append_left h] at e
    obtain ⟨a', vs', h1, h2, h3⟩ := f.2 i y e
    exact ⟨a', vs', by rw [List.getElem?_append_left (by rw [f.1]; exact h)]; exact h1, h2, h3⟩
  · rw [List.getElem?_append_right (by first | assumption | exact Nat.le_trans (by assumption) (by decide) | exact Nat.lt_of_lt_of_le (by assumption) (by decide) | exact Int.natCast_nonneg _ | exact Int.ofNat_lt.mpr (lt4 (by assumption)) | exact dep (by assumption) (by decide) | omega)] at e
    have hi' : i - rows.length = 0 := by
      have := (List.getElem?_eq_some_iff.mp e).1
      simp at this; omega
    rw [hi'] at e; cases e
    exact ⟨a, vs, by rw [List.getElem?_append_right (by have := f.1; omega), f.1, hi']; rfl, hp, hi⟩
def costRows (hs ts : List Str) : List (List Int) := ts.map fun x => hs.map fun y => cst x y
/-- the costs are laid -/
def FC (b : Heap) (cm : Str → Option Value) (rows : List (List Int)) : Prop := ∃ ca refs, cm (Str.ofString "costs") = some (.ref ca) ∧ b.PlainList ca (List.toArray refs) ∧ RowsAre b refs rows

set_option maxHeartbeats 8000000 in
theorem segB {hs ts : List Str} {L fa ca : Addr} {cd : Value} {Q : Flow → Shared → Prop} (U : Up w mg mb b) (S : St b (lawEnv L fa cd) (lawCells L) m cm [(ca, isL [])] h)
    (hE : Env0 w prog b m hs ts) (cc : cm (Str.ofString "costs") = some (.ref ca)) (hhl : hs.length = 4) (htl : ts.length = 4) (hhm : ∀ x ∈ hs, x ∈ leadL) (htm : ∀ x ∈ ts, x ∈ leadL)
    (hh : A.handled = none) (hr : A.depth + 100 < recursionLimit) (hun : A.units + 70 < cLine)
    (q : ∀ b' m' cm' h' t', Kp b b' → St b' (lawEnv L fa cd) (lawCells L) m' cm' [] h' → FC b' cm' (costRows hs ts) → wpAny (model prog w) A (execs (lawBody.drop 9) (lawEnv L fa cd)) Q E ⟨h', g, d, t', os⟩) :
    wpAny (model prog w) A (execs (lawBody.drop 8) (lawEnv L fa cd)) Q E ⟨h, g, d, t, os⟩ := by
  refine wpAny_execs_cons (wpAny_For (r_t1 U S rfl rfl Boot.range (r_int fun k1 t => r_range1 (n := 4) S rfl (by decide) fun Iu h₁ t₁ S hIu => ?_)))
  refine loopW (Walks.range (by exact hh) Iu 0 1 4) (fun a ha q => absurd (List.mem_singleton.mp ha) q) (fun i h q => rangeI q) S hIu
    (fun i b₁ m₁ cm₁ own₁ => ∃ refs, own₁ = [(ca, isL refs)] ∧ RowsAre b₁ refs ((costRows hs ts).take i) ∧ Env0 w prog b₁ m₁ hs ts ∧ cm₁ (Str.ofString "costs") = some (.ref ca))
    ⟨[], rfl, ⟨rfl, fun i r e => by simp at e⟩, hE, cc⟩ ?_ ?_
  · clear S hE cc
    rintro u vv b₁ m₁ cm₁ own₁ h₁ t₁ oIu Q' E' hi ⟨tu, rfl⟩ kb1 hJJ S hQ
    obtain ⟨refs, rfl, hR, hE, cc⟩ := hJJ
    have ei : (0 : Int) + (u : Int) * 1 = u := ei0 _
    rw [ei]
    have U := U.kp kb1
    have rl : refs.length = u := by rw [hR.1, List.length_take]; unfold costRows; rw [List.length_map]; omega
    obtain ⟨x, hx⟩ : ∃ x, ts[u]? = some x := ⟨_, List.getElem?_eq_getElem (by first | assumption | exact Nat.le_trans (by assumption) (by decide) | exact Nat.lt_of_lt_of_le (by assumption) (by decide) | exact Int.natCast_nonneg _ | exact Int.ofNat_lt.mpr (lt4 (by assumption)) | exact dep (by assumption) (by decide) | omega)⟩
    have hxl := htm x (List.mem_of_getElem? hx)
    refine r_as S rfl fun h₁ t₁ S => ?_
    refine wpAny_execs_cons (r_append (fun Q1 h1 => r_nmc S rfl rfl cc (h1 ca _ _ _ _ _ _ 1 refs S rfl (by first | assumption | exact Nat.le_trans (by assumption) (by decide) | exact Nat.lt_of_lt_of_le (by assumption) (by decide) | exact Int.natCast_nonneg _ | exact Int.ofNat_lt.mpr (lt4 (by assumption)) | exact dep (by assumption) (by decide) | omega) fun Q2 h2 => r_list0 (r_newL S (by simp) fun ra h₂ S2 _ => (h2 _ _ _ _ _ _ _ 2 refs S2 rfl (by first | assumption | exact Nat.le_trans (by assumption) (by decide) | exact Nat.lt_of_lt_of_le (by assumption) (by decide) | exact Int.natCast_nonneg _ | exact Int.ofNat_lt.mpr (lt4 (by assumption)) | exact dep (by assumption) (by decide) | omega) fun h₃ S3 => ?_)))) rfl ⟨_, rfl⟩ rfl rfl)
    refine wpAny_execs_cons (wpAny_For (r_t1 U S3 rfl rfl Boot.range (r_int fun k1 t => r_range1 (n := 4) S3 rfl (by decide) fun Iv h₁ t₁ S hIv => ?_)))
    refine loopW (Walks.range (by exact hh) Iv 0 1 4) (fun a ha q => absurd (List.mem_singleton.mp ha) q) (fun i h q => rangeI q) S hIv
      (fun i b₂ m₂ cm₂ own₂ => ∃ row, own₂ = [(ra, isL row), (Iu, fun o => o = oIu), (ca, isL (refs ++ [Value.ref ra]))] ∧ IntsAre row ((hs.map fun y => cst x y).take i) ∧ Env0 w prog b₂ m₂ hs ts ∧ m₂ (Str.ofString "u") = some (.int (u : Int) tu) ∧ cm₂ (Str.ofString "costs") = some (.ref ca))
      ⟨[], rfl, .nil, hE.kp (Kp.refl _) rfl rfl rfl rfl rfl, rfl, cc⟩ ?_ ?_
    · clear S S3 hE cc
      rintro v vv b₂ m₂ cm₂ own₂ h₂ t₂ oIv Q' E' hi2 ⟨tv, rfl⟩ kb2 hJJ S hQ
      obtain ⟨row, rfl, hI, hE, mu, cc⟩ := hJJ
      have ei2 : (0 : Int) + (v : Int) * 1 = v := ei0 _
      rw [ei2]
      obtain ⟨y, hy⟩ : ∃ y, hs[v]? = some y := ⟨_, List.getElem?_eq_getElem (by first | assumption | exact Nat.le_trans (by assumption) (by decide) | exact Nat.lt_of_lt_of_le (by assumption) (by decide) | exact Int.natCast_nonneg _ | exact Int.ofNat_lt.mpr (lt4 (by assumption)) | exact dep (by assumption) (by decide) | omega)⟩
      have hyl := hhm y (List.mem_of_getElem? hy)
      have rwl := hI.length
      rw [List.length_take, List.length_map] at rwl
      refine r_asc S rfl rfl rfl fun h₁ S => ?_
      refine cellW (U.kp kb2) S hE hx hy hxl hyl hi hi2 mu rfl cc (by rw [List.getElem?_append_right (by first | assumption | exact Nat.le_trans (by assumption) (by decide) | exact Nat.lt_of_lt_of_le (by assumption) (by decide) | exact Int.natCast_nonneg _ | exact Int.ofNat_lt.mpr (lt4 (by assumption)) | exact dep (by assumption) (by decide) | omega), rl, Nat.sub_self]; rfl) (by first | assumption | exact Nat.le_trans (by assumption) (by decide) | exact Nat.lt_of_lt_of_le (by assumption) (by decide) | exact Int.natCast_nonneg _ | exact Int.ofNat_lt.mpr (lt4 (by assumption)) | exact dep (by assumption) (by decide) | omega) hI hh hr hun fun b' m' row' h' t' k' S' hI' hE' mu' => ?_
      refine (hQ _ _ _ _ _ _ k' S' ⟨row', rfl, ?_, hE', mu', cc⟩)
      rw [take_snoc (x := cst x y) (by rw [List.getElem?_map, hy]; rfl)]
      exact hI'
    · clear S S3 hE cc
      rintro b₂ m₂ cm₂ own₂ h₂ t₂ kb2 ⟨row, rfl, hI, hE, mu, cc⟩ S
      obtain ⟨b3, kb3, S', o, ho, n, rfl⟩ := S.freeze
      refine wpAny_execs_nil (hQ _ _ _ _ _ _ (kb2.trans kb3) S' ⟨_, rfl, ?_, hE.kp kb3 rfl rfl rfl rfl rfl, cc⟩)
      have e : (hs.map fun y => cst x y).take 4 = hs.map fun y => cst x y := List.take_of_length_le (by rw [List.length_map]; omega)
      rw [e] at hI
      rw [take_snoc (x := hs.map fun y => cst x y) (by unfold costRows; rw [List.getElem?_map, hx]; rfl)]
      exact (hR.kp (kb2.trans kb3)).snoc ⟨n, ho⟩ hI
  · clear S hE cc
    rintro b₁ m₁ cm₁ own₁ h₁ t₁ kb1 ⟨refs, rfl, hR, hE, cc⟩ S
    obtain ⟨b3, kb3, S', o, ho, n, rfl⟩ := S.freeze
    refine q _ _ _ _ _ (kb1.trans kb3) S' ⟨ca, refs, cc, ⟨n, ho⟩, ?_⟩
    have e : (costRows hs ts).take 4 = costRows hs ts := List.take_of_length_le (by unfold costRows; rw [List.length_map]; omega)
    rw [e] at hR
    exact hR.kp kb3
end Mine

open PySem PySem.W PyProof.Rows PySem.Calls
set_option Elab.async false
set_option linter.unusedVariables false
set_option maxRecDepth 100000
namespace Mine
variable {prog : Program} {w : World} {A : Around} {E : Value → Shared → Prop} {mg mb : Str → Option Value}
variable {b h : Heap} {env : Env} {wc : List (Str × Addr)} {m cm : Str → Option Value} {own : Own} {g : Array GenState} {d : Drawn} {t : Nat} {os : OsState}
variable {R : Result → Shared → Prop}

def cAt (rows : List (List Int)) (u v : Nat) : Nat := ((rows.getD u []).getD v 0).toNat
def aheadF (c : Nat → Nat → Nat) (row : List (Option Nat)) (v : Nat) : List (Option Nat) := (List.range 4).map fun u => (row.getD u none).map fun r => r + c u v
def toldF (ahead : List (Option Nat)) : Nat := mxN (fun i => (ahead.filterMap id).getD i 0) ((ahead.filterMap id).length - 1)
def rowF (c : Nat → Nat → Nat) : Nat → List (Option Nat)
  | 0 => [some 0, none, none, none]
  | k + 1 => (List.range 4).map fun v => some (toldF (aheadF c (rowF c k) v))
def GoodRow (B : Nat) (row : List (Option Nat)) : Prop := row.length = 4 ∧ (∃ n, row[0]? = some (some n)) ∧ ∀ n, some n ∈ row → n ≤ B
theorem aheadF_good {c : Nat → Nat → Nat} {row : List (Option Nat)} {B v : Nat} (hc : ∀ u, u < 4 → c u v ≤ 10) (hr : GoodRow B row) : GoodRow (B + 10) (aheadF c row v) := by
  obtain ⟨h1, ⟨n, h2⟩, h3⟩ := hr
  refine ⟨by simp [aheadF], ⟨n + c 0 v, ?_⟩, fun n' hn => ?_⟩
  · unfold aheadF
    rw [List.getElem?_map]
    simp [List.getD_eq_getElem?_getD, h2]
  · obtain ⟨u, hu, e⟩ := List.mem_map.mp hn
    rw [List.mem_range] at hu
    cases hg : row.getD u none with
    | none => rw [hg] at e; cases e
    | some r =>
      rw [hg] at e; cases e
      have hm : some r ∈ row := by
        rw [List.getD_eq_getElem?_getD] at hg
        cases hx : row[u]? with
        | none => rw [hx] at hg; cases hg
        | some o => rw [hx] at hg; cases hg; exact List.mem_of_getElem? hx
      have g1 := h3 r hm
      have g2 := hc u hu
      show r + c u v ≤ B + 10
      omega
theorem toldF_le {ahead : List (Option Nat)} {B : Nat} (hb : ∀ n, some n ∈ ahead → n ≤ B) : toldF ahead ≤ B := mxN_le _ fun i hi => by
  rw [List.getD_eq_getElem?_getD]
  cases e : (ahead.filterMap id)[i]? with
  | none => exact Nat.zero_le _
  | some c =>
    have := List.mem_of_getElem? e
    rw [List.mem_filterMap] at this
    obtain ⟨oc, h1, h2⟩ := this
    exact hb c (by simpa [show oc = some c from h2] using h1)
theorem rowF_good {c : Nat → Nat → Nat} (hc : ∀ u v, u < 4 → v < 4 → c u v ≤ 10) : ∀ k, GoodRow (10 * k) (rowF c k)
  | 0 => ⟨rfl, ⟨0, rfl⟩, fun n hn => by simp [rowF] at hn; omega⟩
  | k + 1 => by
    have ih := rowF_good hc k
    refine ⟨by simp [rowF], ⟨_, by simp [rowF]; rfl⟩, fun n hn => ?_⟩
    obtain ⟨v, hv, e⟩ := List.mem_map.mp hn
    cases e
    exact toldF_le (aheadF_good (fun u hu => hc u v hu (List.mem_range.mp hv)) ih).2.2
theorem good_pos {B : Nat} {row : List (Option Nat)} (h : GoodRow B row) : 0 < (row.filterMap id).length := by
  obtain ⟨-, ⟨n, h2⟩, -⟩ := h
  have : n ∈ row.filterMap id := List.mem_filterMap.mpr ⟨some n, List.mem_of_getElem? h2, rfl⟩
  exact List.length_pos_of_mem this

/-- values, and what they stand for -/
def VOpt : Option Nat → Value → Prop
  | none, v => v = .none
  | some n, v => ∃ u, v = .int (n : Int) u
def OptI (vs : List Value) (xs : List (Option Nat)) : Prop := vs.length = xs.length ∧ ∀ (i : Nat) (o : Option Nat), xs[i]? = some o → ∃ v, vs[i]? = some v ∧ VOpt o v
theorem OptI.nil : OptI [] [] := ⟨rfl, fun i o e => by simp at e⟩
theorem OptI.snoc {vs : List Value} {xs : List (Option Nat)} {v : Value} {o : Option Nat} (f : OptI vs xs) (hv : VOpt o v) : OptI (vs ++ [v]) (xs ++ [o]) := by
  refine ⟨by simp [f.1], fun i y e => ?_⟩
  by_cases h : i < xs.length
  · rw [List.getElem?_append_left h] at e
    obtain ⟨v', h1, h2⟩ := f.2 i y e
    exact ⟨v', by rw [List.getElem?_append_left (by rw [f.1]; exact h)]; exact h1, h2⟩
  · rw [List.getElem?_append_right (by first | assumption | exact Nat.le_trans (by assumption) (by decide) | exact Nat.lt_of_lt_of_le (by assumption) (by decide) | exact Int.natCast_nonneg _ | exact Int.ofNat_lt.mpr (lt4 (by assumption)) | exact dep (by assumption) (by decide) | omega)] at e
    have hi' : i - xs.length = 0 := by
      have := (List.getElem?_eq_some_iff.mp e).1
      simp at this; omega
    rw [hi'] at e; cases e
    exact ⟨v, by rw [List.getElem?_append_right (by have := f.1; omega), f.1, hi']; rfl, hv⟩
theorem OptI.of {vs : List Value} {xs : List (Option Nat)} (f : OptI vs xs) {i : Nat} {v : Value} (e : vs[i]? = some v) : ∃ o, xs[i]? = some o ∧ VOpt o v := by
  have hi := (List.getElem?_eq_some_iff.mp e).1
  rw [f.1] at hi
  obtain ⟨v', h1, h2⟩ := f.2 i xs[i] (List.getElem?_eq_getElem hi)
  rw [e] at h1; cases h1
  exact ⟨_, List.getElem?_eq_getElem hi, h2⟩
def RowsO (b : Heap) (refs : List Value) (rows : List (List (Option Nat))) : Prop := refs.length = rows.length ∧ ∀ (i : Nat) (r : List (Option Nat)), rows[i]? = some r → ∃ a vs, refs[i]? = some (.ref a) ∧ b.PlainList a (List.toArray vs) ∧ OptI vs r
theorem RowsO.kp {b b' : Heap} {refs : List Value} {rows : List (List (Option Nat))} (k : Kp b b') (f : RowsO b refs rows) : RowsO b' refs rows :=
  ⟨f.1, fun i r e => let ⟨a, vs, h1, h2, h3⟩ := f.2 i r e; ⟨a, vs, h1, plain_kp k h2, h3⟩⟩
theorem RowsO.snoc {b : Heap} {refs : List Value} {rows : List (List (Option Nat))} {a : Addr} {vs : List Value} {r : List (Option Nat)} (f : RowsO b refs rows) (hp : b.PlainList a vs.toArray) (hi : OptI vs r) : RowsO b (refs ++ [Value.ref a]) (rows ++ [r]) := by
  refine ⟨by simp [f.1], fun i y e => ?_⟩
  by_cases h : i < rows.length
  · rw [List.getElem?_append_left h] at e
    obtain ⟨a', vs', h1, h2, h3⟩ := f.2 i y e
    exact ⟨a', vs', by rw [List.getElem?_append_left (by rw [f.1]; exact h)]; exact h1, h2, h3⟩
  · rw [List.getElem?_append_right (by first | assumption | exact Nat.le_trans (by assumption) (by decide) | exact Nat.lt_of_lt_of_le (by assumption) (by decide) | exact Int.natCast_nonneg _ | exact Int.ofNat_lt.mpr (lt4 (by assumption)) | exact dep (by assumption) (by decide) | omega)] at e
    have hi' : i - rows.length = 0 := by
      have := (List.getElem?_eq_some_iff.mp e).1
      simp at this; omega
    rw [hi'] at e; cases e
    exact ⟨a, vs, by rw [List.getElem?_append_right (by have := f.1; omega), f.1, hi']; rfl, hp, hi⟩
theorem FC.kp {b b' : Heap} {cm cm' : Str → Option Value} {rows : List (List Int)} (k : Kp b b') (e : cm' (Str.ofString "costs") = cm (Str.ofString "costs")) (f : FC b cm rows) : FC b' cm' rows := by
  obtain ⟨ca, refs, h1, h2, h3⟩ := f
  exact ⟨ca, refs, e.trans h1, plain_kp k h2, h3.kp k⟩

/-- a list made and never changed -/
theorem r_newLB {vs : List Value} {Q : Value → Shared → Prop} (S : St b env wc m cm own h) (hl : vs.length ≤ 1000) (q : ∀ a b' h', Kp b b' → St b' env wc m cm own h' → b'.PlainList a vs.toArray → Q (.ref a) ⟨h', g, d, t, os⟩) :
    wpAny (model prog w) A (newList vs) Q E ⟨h, g, d, t, os⟩ := by
  obtain ⟨b', k, S', hb⟩ := S.pushB (o := { cls := .type "list", data := .seq vs.toArray }) rfl
  exact wpAny_newList (q _ b' _ k S' ⟨_, hb⟩) (by rw [sizeLine_eq]; omega)
theorem r_pow10 {n : Nat} {u v : Tok} {Q : Value → Shared → Prop} (hn : n ≤ 1000) (q : ∀ u t', Q (.int (10 ^ (n + 3)) u) ⟨h, g, d, t', os⟩) : wpAny (model prog w) A (binaryOp .Pow (.int 10 u) (.int ((n : Int) + 3) v)) Q E ⟨h, g, d, t, os⟩ := by
  refine pow_int_small (by omega) (by omega) (by decide) ?_
  have e : ((n : Int) + 3).toNat = n + 3 := by omega
  rw [e]; exact q _ _
theorem mxV_nat (c : Nat → Nat) : ∀ k, mxV (fun i => (c i : Int)) k = (mxN c k : Int)
  | 0 => rfl
  | k + 1 => by
    have := mxV_nat c k
    simp only [mxV, mxN, this]; omega
theorem mxL_nat (l : List Nat) : mxL (l.map fun (n : Nat) => (n : Int)) = (mxN (fun i => l.getD i 0) (l.length - 1) : Int) := by
  rw [← mxV_nat]
  unfold mxL
  rw [List.length_map]
  refine mxV_congr _ fun i _ => ?_
  simp only [List.getD_eq_getElem?_getD, List.getElem?_map]
  cases l[i]? <;> rfl
end Mine

open PySem PySem.W PyProof.Rows PySem.Calls
set_option Elab.async false
set_option linter.unusedVariables false
set_option maxRecDepth 100000
namespace Mine
variable {prog : Program} {w : World} {A : Around} {E : Value → Shared → Prop} {mg mb : Str → Option Value}
variable {b h : Heap} {env : Env} {wc : List (Str × Addr)} {m cm : Str → Option Value} {own : Own} {g : Array GenState} {d : Drawn} {t : Nat} {os : OsState}
variable {R : Result → Shared → Prop}

def lawC1 : List Stmt := forBody (nthS lawBody 10)
def lawC2 : List Stmt := forBody (nthS lawC1 1)
def gridC (hs ts : List Str) : Nat → Nat → Nat := cAt (costRows hs ts)
/-- a grid of costs, four by four -/
def Grid (rows : List (List Int)) : Prop := rows.length = 4 ∧ ∀ (u : Nat) (r : List Int), rows[u]? = some r → r.length = 4 ∧ ∀ x ∈ r, 0 ≤ x ∧ x ≤ 10
theorem Grid.get {rows : List (List Int)} (G : Grid rows) {u v : Nat} (hu : u < 4) (hv : v < 4) : ∃ r, rows[u]? = some r ∧ r[v]? = some ((cAt rows u v : Nat) : Int) := by
  have h1 : u < rows.length := by rw [G.1]; exact hu
  have e1 : rows[u]? = some rows[u] := List.getElem?_eq_getElem h1
  obtain ⟨g1, g2⟩ := G.2 u rows[u] e1
  have h2 : v < rows[u].length := by rw [g1]; exact hv
  have e2 : rows[u][v]? = some rows[u][v] := List.getElem?_eq_getElem h2
  refine ⟨_, e1, ?_⟩
  have g3 := g2 _ (List.mem_of_getElem? e2)
  simp only [cAt, List.getD_eq_getElem?_getD, e1, Option.getD_some, e2]
  congr 1
  omega
theorem Grid.le {rows : List (List Int)} (G : Grid rows) {u v : Nat} (hu : u < 4) (hv : v < 4) : cAt rows u v ≤ 10 := by
  obtain ⟨r, e1, e2⟩ := G.get hu hv
  have := ((G.2 u r e1).2 _ (List.mem_of_getElem? e2)).2
  omega

theorem cost_at {refs : List Value} {cr : List (List Int)} (f : RowsAre b refs cr) (G : Grid cr) {u v : Nat} (hu : u < 4) (hv : v < 4) : ∃ a vs k, refs[u]? = some (.ref a) ∧ b.PlainList a (List.toArray vs) ∧ vs[v]? = some (.int ((cAt cr u v : Nat) : Int) k) := by
  obtain ⟨r, e1, e2⟩ := G.get hu hv
  obtain ⟨a, vs, h1, h2, h3⟩ := f.2 u r e1
  obtain ⟨k, hk⟩ := ints_get v h3 (List.getElem?_eq_some_iff.mp e2).1
  rw [List.getD_eq_getElem?_getD, e2, Option.getD_some] at hk
  exact ⟨a, vs, k, h1, h2, hk⟩
theorem isD_vals {K : Type} [DecidableEq K] {knd : KeyKind prog w K} {kvs : List (K × Value)} {o : Obj} (hD : isD knd kvs o) : ∃ es ep, o.ExactDict ∧ o.data = .dict es ep ∧ es.toList.map (·.val) = kvs.map (·.2) := by
  obtain ⟨es, ep, h1, h2, -, h3, -⟩ := hD
  refine ⟨es, ep, h1, h2, ?_⟩
  generalize es.toList = l at h3
  induction h3 with
  | nil => rfl
  | cons _ hv _ ih => simp [hv, ih]
theorem stored_new {K : Type} [DecidableEq K] {kvs : List (K × Value)} {k : K} {v : Value} (h : k ∉ kvs.map (·.1)) : stored kvs k v = kvs ++ [(k, v)] := by
  unfold stored
  rw [if_neg]
  intro q
  obtain ⟨p, hp, e⟩ := List.any_eq_true.mp q
  exact h (List.mem_map.mpr ⟨p, hp, by simpa using e⟩)
theorem OptsAre.snocN {vs : List Value} {cs : List (Option Nat)} (f : OptsAre vs cs) : OptsAre (vs ++ [Value.none]) (cs ++ [none]) := by
  induction f with
  | nil => exact .no .nil
  | no _ ih => exact .no ih
  | yes c u _ ih => exact .yes c u ih
theorem OptsAre.snocS {vs : List Value} {cs : List (Option Nat)} (c : Nat) (u : Tok) (f : OptsAre vs cs) : OptsAre (vs ++ [Value.int (10 ^ (c + 3)) u]) (cs ++ [some c]) := by
  induction f with
  | nil => exact .yes c u .nil
  | no _ ih => exact .no ih
  | yes c' u' _ ih => exact .yes c' u' ih

set_option maxHeartbeats 8000000 in
theorem cellR {L fa Iv Ik ra rl : Addr} {cd : Value} {Pv Pk : Obj → Prop} {row refs : List Value} {ri : List (Option Nat)} {rows : List (List (Option Nat))} {prev : List (Option Nat)} {cr : List (List Int)} {k v : Nat} {tk tv : Tok} {Q : Flow → Shared → Prop} (U : Up w mg mb b) (S : St b (lawEnv L fa cd) (lawCells L) m cm [(Iv, Pv), (ra, isL row), (Ik, Pk), (rl, isL (refs ++ [Value.ref ra]))] h)
    (hC : FC b cm cr) (hG : Grid cr) (hk4 : k < 4) (hv4 : v < 4) (ck : cm (Str.ofString "k") = some (.int k tk)) (cv : cm (Str.ofString "v") = some (.int v tv)) (cl : cm (Str.ofString "rows") = some (.ref rl))
    (hR : RowsO b refs rows) (hrl : rows.length = k + 1) (hprev : rows[k]? = some prev) (hgood : GoodRow (10 * k) prev) (hrw : row.length ≤ 10) (hI : OptI row ri) (hh : A.handled = none) (hr : A.depth + 100 < recursionLimit) (hun : A.units + 70 < cLine)
    (q : ∀ b' m' cm' row' h' t', Kp b b' → St b' (lawEnv L fa cd) (lawCells L) m' cm' [(Iv, Pv), (ra, isL row'), (Ik, Pk), (rl, isL (refs ++ [Value.ref ra]))] h' → OptI row' (ri ++ [some (toldF (aheadF (cAt cr) prev v))]) → cm' (Str.ofString "costs") = cm (Str.ofString "costs") → cm' (Str.ofString "k") = cm (Str.ofString "k") → cm' (Str.ofString "rows") = cm (Str.ofString "rows") → Q .next ⟨h', g, d, t', os⟩) :
    wpAny (model prog w) A (execs lawC2 (lawEnv L fa cd)) Q E ⟨h, g, d, t, os⟩ := by
  obtain ⟨ca, crefs, cc, hca, hcr⟩ := hC
  have rfl' := hR.1
  obtain ⟨pa, pv, hpa, hpp, hpo⟩ := hR.2 _ _ hprev
  refine wpAny_execs_cons (wpAny_Assign_Name (r_lc rfl rfl rfl (r_t1 U S rfl rfl Boot.range (r_int fun k1 t => r_range1 (n := 4) S rfl (by decide) fun I h₁ t₁ S hIt => ?_))))
  refine compW (Walks.range (by exact hh) I 0 1 4) (fun a ha => (List.mem_singleton.mp ha) ▸ rangeI hIt) (fun i h q => rangeI q) S hIt (ClOk.all ⟨rfl, rfl, rfl, rfl, trivial⟩) rfl rfl rfl (by rw [sizeLine_eq]; decide)
    (fun _ i _ ys => OptI ys ((aheadF (cAt cr) prev v).take i)) (fun _ _ _ => .nil) ?_ ?_
  · rintro i vv bc C D b₁ m₁ ys h₁ t₁ oI E' Q' Z' hi ⟨k2, rfl⟩ kb Sb kb₁ hJ hx S hQ hZ
    have ei : (0 : Int) + (i : Int) * 1 = i := ei0 _
    rw [ei] at hx
    obtain ⟨oR, hoR, nR, rfl⟩ := Sb.at (i := 3) rfl
    have hoR := kb₁ _ _ hoR
    have hlR := obj_list (S.keep _ _ hoR)
    have hrf : (refs ++ [Value.ref ra])[k]? = some (.ref pa) := by rw [List.getElem?_append_left (by first | assumption | exact Nat.le_trans (by assumption) (by decide) | exact Nat.lt_of_lt_of_le (by assumption) (by decide) | exact Int.natCast_nonneg _ | exact Int.ofNat_lt.mpr (lt4 (by assumption)) | exact dep (by assumption) (by decide) | omega)]; exact hpa
    obtain ⟨vi, hvi, hvo⟩ := hpo.2 i (prev.getD i none) (by rw [List.getD_eq_getElem?_getD, List.getElem?_eq_getElem (by have := hgood.1; omega)]; rfl)
    have hlP := plain_kp (kb.trans kb₁) hpp
    have htake : (aheadF (cAt cr) prev v).take (i + 1) = (aheadF (cAt cr) prev v).take i ++ [(prev.getD i none).map fun r => r + cAt cr i v] := take_snoc (by unfold aheadF; rw [List.getElem?_map, List.getElem?_range (by first | assumption | exact Nat.le_trans (by assumption) (by decide) | exact Nat.lt_of_lt_of_le (by assumption) (by decide) | exact Int.natCast_nonneg _ | exact Int.ofNat_lt.mpr (lt4 (by assumption)) | exact dep (by assumption) (by decide) | omega)]; rfl)
    refine wpAny_tests_nil ?_
    rw [if_pos rfl]
    refine wpAny_IfExp (wpAny_isTrue_Compare1 (Subscript_ (Subscript_ (r_nmc S rfl rfl cl (r_nmc S rfl rfl ck (r_ix hlR (lt4 hk4) hrf (r_nm S rfl hx (r_ix (list_kp hlP.isList S.keep) (lt4 hi) hvi (r_none ?_)))))))))
    cases hp : prev.getD i none with
    | none =>
      rw [hp] at hvo htake
      have hvo : vi = .none := hvo
      subst hvo
      refine wpAny_is_self rfl (wpAny_truthy_bool ?_)
      rw [if_pos rfl]
      exact r_none (hQ _ _ _ _ _ (Kp.refl _) S (by rw [htake]; exact hJ.snoc rfl))
    | some r =>
      rw [hp] at hvo htake
      obtain ⟨k3, rfl⟩ := hvo
      refine is_int_none (wpAny_truthy_bool ?_)
      rw [if_neg (by decide)]
      obtain ⟨cra, crv, k4, g1, g2, g3⟩ := cost_at hcr hG hi hv4
      have hlC := plain_kp (kb.trans kb₁) hca
      have hlR2 := plain_kp (kb.trans kb₁) g2
      refine wpAny_BinOp (Subscript_ (Subscript_ (r_nmc S rfl rfl cl (r_nmc S rfl rfl ck (r_ix hlR (lt4 hk4) hrf (r_nm S rfl hx (r_ix (list_kp hlP.isList S.keep) (lt4 hi) hvi ?_)))))))
      refine Subscript_ (Subscript_ (r_nmc S rfl rfl cc (r_nm S rfl hx (r_ix (list_kp hlC.isList S.keep) (lt4 hi) g1 (r_nmc S rfl rfl cv (r_ix (list_kp hlR2.isList S.keep) (lt4 hv4) g3 (r_add fun k5 t => (hQ _ _ _ _ _ (Kp.refl _) S ?_))))))))
      rw [htake]
      exact hJ.snoc ⟨k5, by rw [Int.natCast_add]⟩
  intro bc b₁ b2 C D ys h' t' hJ kb kb2 hn hD hL S
  refine post_none S fun h' S => r_stc S rfl rfl rfl fun h₁ S => ?_
  have hag := aheadF_good (c := cAt cr) (v := v) (fun u hu => hG.le hu hv4) hgood
  have etake : (aheadF (cAt cr) prev v).take 4 = aheadF (cAt cr) prev v := List.take_of_length_le (by rw [hag.1]; exact Nat.le_refl _)
  rw [etake] at hJ
  have htold : toldF (aheadF (cAt cr) prev v) ≤ 100 := Nat.le_trans (toldF_le hag.2.2) (by first | assumption | exact Nat.le_trans (by assumption) (by decide) | exact Nat.lt_of_lt_of_le (by assumption) (by decide) | exact Int.natCast_nonneg _ | exact Int.ofNat_lt.mpr (lt4 (by assumption)) | exact dep (by assumption) (by decide) | omega)
  have hpos := good_pos hag
  generalize hah : aheadF (cAt cr) prev v = ah at *
  have U := U.kp kb2
  clear hn hD kb hpp hpo hpa hcr hca hR
  -- the table
  refine wpAny_execs_cons (r_adc rfl rfl rfl rfl (r_t1 U S rfl rfl Boot.range (r_int fun k1 t => r_range1 (n := 4) S rfl (by decide) fun I h₁ t₁ S hIt => ?_)))
  refine compDW (PySem.intKind prog w) (Walks.range (by exact hh) I 0 1 4) (fun a ha => (List.mem_singleton.mp ha) ▸ rangeI hIt) (fun i h q => rangeI q) S hIt (ClOk.all ⟨rfl, trivial⟩) (by rw [sizeLine_eq]; decide) ?_
    (fun _ i _ kvs => kvs.map (·.1) = (List.range i).map (fun (n : Nat) => (n : Int)) ∧ OptsAre (kvs.map (·.2)) (ah.take i)) (fun _ _ _ => ⟨rfl, .nil⟩) ?_ ?_
  · obtain ⟨o, _, _, ho, _⟩ := U.g
    exact ⟨3, o, by decide, ho⟩
  · rintro i vv bc C D2 b₁ m₁ cm₁ kvs h₁ t₁ oI E' Q' hi ⟨k2, rfl⟩ kb Sb kb₁ ⟨hJ1, hJ2⟩ hcm S hQ
    have ei : (0 : Int) + (i : Int) * 1 = i := ei0 _
    rw [ei]
    have cah : cm₁ (Str.ofString "ahead") = some (.ref D) := (hcm _ rfl).trans rfl
    have hL' := plain_kp (kb.trans kb₁) hL
    have hlen := hag.1
    obtain ⟨vi, hvi, hvo⟩ := hJ.2 i (ah.getD i none) (by rw [List.getD_eq_getElem?_getD, List.getElem?_eq_getElem (by first | assumption | exact Nat.le_trans (by assumption) (by decide) | exact Nat.lt_of_lt_of_le (by assumption) (by decide) | exact Int.natCast_nonneg _ | exact Int.ofNat_lt.mpr (lt4 (by assumption)) | exact dep (by assumption) (by decide) | omega)]; rfl)
    have htk : ah.take (i + 1) = ah.take i ++ [ah.getD i none] := take_snoc (by rw [List.getD_eq_getElem?_getD, List.getElem?_eq_getElem (by first | assumption | exact Nat.le_trans (by assumption) (by decide) | exact Nat.lt_of_lt_of_le (by assumption) (by decide) | exact Int.natCast_nonneg _ | exact Int.ofNat_lt.mpr (lt4 (by assumption)) | exact dep (by assumption) (by decide) | omega)]; rfl)
    have hnew : (i : Int) ∉ kvs.map (·.1) := by
      rw [hJ1]; intro q
      obtain ⟨n, hn, e⟩ := List.mem_map.mp q
      have := List.mem_range.mp hn
      omega
    have hkeys : ∀ vv : Value, (stored kvs (i : Int) vv).map (·.1) = (List.range (i + 1)).map (fun (n : Nat) => (n : Int)) := fun vv => by
      rw [stored_new hnew, List.map_append, hJ1, List.range_succ, List.map_append]; rfl
    refine r_as S rfl fun h₁ t₁ S => r_nm S rfl rfl ?_
    refine wpAny_IfExp (wpAny_isTrue_Compare1 (Subscript_ (r_nmc S rfl rfl cah (r_nm S rfl rfl (r_ix (list_kp hL'.isList S.keep) (lt4 hi) hvi (r_none ?_))))))
    cases hp : ah.getD i none with
    | none =>
      rw [hp] at hvo htk
      have hvo : vi = .none := hvo
      subst hvo
      refine wpAny_is_self rfl (wpAny_truthy_bool ?_)
      rw [if_pos rfl]
      refine r_none (hQ _ _ (i : Int) _ _ _ _ _ (PySem.intKind_is prog w _ _) (Kp.refl _) hcm S ⟨hkeys _, ?_⟩)
      rw [htk, stored_new hnew, List.map_append]
      exact hJ2.snocN
    | some r =>
      rw [hp] at hvo htk
      obtain ⟨k3, rfl⟩ := hvo
      have hrb : r ≤ 100 := by
        have hm : some r ∈ ah := by
          rw [List.getD_eq_getElem?_getD] at hp
          cases hx : ah[i]? with
          | none => rw [hx] at hp; cases hp
          | some o => rw [hx] at hp; cases hp; exact List.mem_of_getElem? hx
        have := hag.2.2 r hm
        omega
      refine is_int_none (wpAny_truthy_bool ?_)
      rw [if_neg (by decide)]
      refine wpAny_BinOp (r_int fun k4 t => wpAny_BinOp (Subscript_ (r_nmc S rfl rfl cah (r_nm S rfl rfl (r_ix (list_kp hL'.isList S.keep) (lt4 hi) hvi (r_int fun k5 t => r_add fun k6 t => r_pow10 (by first | assumption | exact Nat.le_trans (by assumption) (by decide) | exact Nat.lt_of_lt_of_le (by assumption) (by decide) | exact Int.natCast_nonneg _ | exact Int.ofNat_lt.mpr (lt4 (by assumption)) | exact dep (by assumption) (by decide) | omega) fun k7 t => ?_))))))
      refine hQ _ _ (i : Int) _ _ _ _ _ (PySem.intKind_is prog w _ _) (Kp.refl _) hcm S ⟨hkeys _, ?_⟩
      rw [htk, stored_new hnew, List.map_append]
      exact hJ2.snocS r k7
  intro bc b₁ b3 C D2 kvs h' t' hJd kb kb3 hn hDn hD1 hD S
  obtain ⟨oD, hoD, hPD⟩ := hD
  obtain ⟨es, ep, hx, hdat, hvals⟩ := isD_vals hPD
  refine post_use S rfl fun h' t' S => ?_
  have U := U.kp kb3
  have hL := plain_kp kb3 hL
  have ev : OptsAre (es.toList.map (·.val)) ah := by
    rw [hvals]
    have := hJd.2
    rwa [List.take_of_length_le (by rw [hag.1]; exact Nat.le_refl _)] at this
  clear hn hDn kb hJd
  refine wpAny_execs_cons (wpAny_Assign_Name (wpAny_BinOp (wpAny_Call_NameR (r_nmg U S rfl rfl (callWith_def rfl (r_arg1 (r_nm S rfl rfl ⟨S.keep _ _ (U.kin _ _ rfl), ?_⟩)))))))
  refine wpAny_call (gw_ok (U.kp S.keep) (by first | assumption | exact Nat.le_trans (by assumption) (by decide) | exact Nat.lt_of_lt_of_le (by assumption) (by decide) | exact Int.natCast_nonneg _ | exact Int.ofNat_lt.mpr (lt4 (by assumption)) | exact dep (by assumption) (by decide) | omega) hh (S.keep _ _ hoD) hx hdat ev hD1 hpos (fun c hc => Nat.le_trans (hag.2.2 c hc) (by first | assumption | exact Nat.le_trans (by assumption) (by decide) | exact Nat.lt_of_lt_of_le (by assumption) (by decide) | exact Int.natCast_nonneg _ | exact Int.ofNat_lt.mpr (lt4 (by assumption)) | exact dep (by assumption) (by decide) | omega)) fun h₂ t₂ k2 ks => ?_)
  have S := S.kp ks
  have e4 : ∀ n : Int, n + 4 - 4 = n := by intro n; omega
  refine r_int fun k3 t => r_sub fun k4 t => ?_
  rw [e4]
  refine r_st S rfl fun h₁ t₁ S => ?_
  refine wpAny_execs_cons (wpAny_If (wpAny_isTrue_Compare1 (r_nm S rfl rfl (r_b1 U S rfl rfl Boot.max (r_lc rfl rfl rfl (r_nmc S rfl rfl rfl (r_iterL S (list_kp hL.isList S.keep) fun I h₄ S hIt hLs hne => ?_)))))))
  have hyl : ys.length = 4 := by rw [hJ.1, hag.1]
  refine compW (Walks.list (by exact hh) I _ hne ys.toArray) (listfp hIt hLs) (fun i h q => listI q.1) S ⟨hIt, hLs⟩ (ClOk.all trivial) rfl rfl rfl (by rw [List.size_toArray, hyl, sizeLine_eq]; decide)
    (fun _ i _ zs => IntsAre zs (((ah.take i).filterMap id).map fun (n : Nat) => (n : Int))) (fun _ _ _ => .nil) ?_ ?_
  · rintro i vv bc C D3 b₁ m₁ zs h₁ t₁ oI E' Q' Z' hi hP kb Sb kb₁ hJz hxc S hQ hZ
    obtain ⟨o, ho, hvo⟩ := hJ.of (by simpa using hP)
    refine wpAny_tests_one (wpAny_isTrue_Compare1 (r_nm S rfl hxc (r_none ?_)))
    cases o with
    | none =>
      have hvo : vv = .none := hvo
      subst hvo
      refine wpAny_isNot_self rfl (wpAny_truthy_bool ?_)
      rw [if_neg (by decide)]
      refine (hZ _ _ _ _ (Kp.refl _) S ?_)
      rw [take_snoc ho]
      simpa using hJz
    | some n =>
      obtain ⟨k5, rfl⟩ := hvo
      refine isnot_int_none (wpAny_truthy_bool ?_)
      rw [if_pos rfl]
      refine r_nm S rfl hxc (hQ _ _ _ _ _ (Kp.refl _) S ?_)
      rw [take_snoc ho, List.filterMap_append, List.map_append]
      exact ints_snoc hJz
  intro bc b₁ b4 C D3 zs h' t' hJz kb kb4 hn hDn hLz S
  refine post_none S fun h' S => ?_
  have etk : ah.take ys.toArray.size = ah := List.take_of_length_le (by rw [List.size_toArray, hyl, hag.1]; exact Nat.le_refl _)
  rw [etk] at hJz
  refine r_maxL (by exact hh) S (list_kp hLz.isList S.keep) hJz (by rw [List.length_map]; exact hpos) fun k5 h₁ t₁ S => ne_int (wpAny_truthy_bool ?_)
  rw [mxL_nat, if_neg (by simp)]
  refine wpAny_execs_nil ?_
  obtain ⟨oR, hoR, hPR⟩ := S.at (i := 3) rfl
  have eget : (refs ++ [Value.ref ra])[((k : Int) + 1).toNat]? = some (.ref ra) := by
    have e : ((k : Int) + 1).toNat = k + 1 := by omega
    rw [e, List.getElem?_append_right (by first | assumption | exact Nat.le_trans (by assumption) (by decide) | exact Nat.lt_of_lt_of_le (by assumption) (by decide) | exact Int.natCast_nonneg _ | exact Int.ofNat_lt.mpr (lt4 (by assumption)) | exact dep (by assumption) (by decide) | omega), rfl', hrl, Nat.sub_self]; rfl
  refine wpAny_execs_cons (r_append (fun Q1 h1 => Subscript_ (r_nmc S rfl rfl cl (wpAny_BinOp (r_nmc S rfl rfl ck (r_int fun k6 t => r_add fun k7 t => r_subL (isL_list hoR hPR) (by first | assumption | exact Nat.le_trans (by assumption) (by decide) | exact Nat.lt_of_lt_of_le (by assumption) (by decide) | exact Int.natCast_nonneg _ | exact Int.ofNat_lt.mpr (lt4 (by assumption)) | exact dep (by assumption) (by decide) | omega) (by first | assumption | exact Nat.le_trans (by assumption) (by decide) | exact Nat.lt_of_lt_of_le (by assumption) (by decide) | exact Int.natCast_nonneg _ | exact Int.ofNat_lt.mpr (lt4 (by assumption)) | exact dep (by assumption) (by decide) | omega) (by simpa using eget) (h1 ra _ _ _ _ _ _ 1 row S rfl (by first | assumption | exact Nat.le_trans (by assumption) (by decide) | exact Nat.lt_of_lt_of_le (by assumption) (by decide) | exact Int.natCast_nonneg _ | exact Int.ofNat_lt.mpr (lt4 (by assumption)) | exact dep (by assumption) (by decide) | omega) fun Q2 h2 => r_nm S rfl rfl (h2 _ _ _ _ _ _ _ 1 row S rfl (by first | assumption | exact Nat.le_trans (by assumption) (by decide) | exact Nat.lt_of_lt_of_le (by assumption) (by decide) | exact Int.natCast_nonneg _ | exact Int.ofNat_lt.mpr (lt4 (by assumption)) | exact dep (by assumption) (by decide) | omega) fun h₃ S3 => ?_))))))) rfl ⟨_, rfl⟩ rfl rfl)
  refine wpAny_execs_nil (q _ _ _ _ _ _ ((kb2.trans kb3).trans kb4) S3 ?_ rfl rfl rfl)
  exact hI.snoc ⟨_, rfl⟩
end Mine

open PySem PySem.W PyProof.Rows PySem.Calls
set_option Elab.async false
set_option linter.unusedVariables false
set_option maxRecDepth 100000
namespace Mine
variable {prog : Program} {w : World} {A : Around} {E : Value → Shared → Prop} {mg mb : Str → Option Value}
variable {b h : Heap} {env : Env} {wc : List (Str × Addr)} {m cm : Str → Option Value} {own : Own} {g : Array GenState} {d : Drawn} {t : Nat} {os : OsState}
variable {R : Result → Shared → Prop}

/-- the rows are laid -/
def FR (b : Heap) (cm : Str → Option Value) (rows : List (List (Option Nat))) : Prop := ∃ rl refs, cm (Str.ofString "rows") = some (.ref rl) ∧ b.PlainList rl (List.toArray refs) ∧ RowsO b refs rows
def rowsF (c : Nat → Nat → Nat) : List (List (Option Nat)) := (List.range 5).map (rowF c)

set_option maxHeartbeats 8000000 in
theorem segC {L fa : Addr} {cd : Value} {cr : List (List Int)} {Q : Flow → Shared → Prop} (U : Up w mg mb b) (S : St b (lawEnv L fa cd) (lawCells L) m cm [] h) (hC : FC b cm cr) (hG : Grid cr)
    (hh : A.handled = none) (hr : A.depth + 100 < recursionLimit) (hun : A.units + 70 < cLine)
    (q : ∀ b' m' cm' h' t', Kp b b' → St b' (lawEnv L fa cd) (lawCells L) m' cm' [] h' → FC b' cm' cr → FR b' cm' (rowsF (cAt cr)) → wpAny (model prog w) A (execs (lawBody.drop 11) (lawEnv L fa cd)) Q E ⟨h', g, d, t', os⟩) :
    wpAny (model prog w) A (execs (lawBody.drop 9) (lawEnv L fa cd)) Q E ⟨h, g, d, t, os⟩ := by
  refine wpAny_execs_cons (wpAny_Assign_Name (r_list1 (List_ (r_spc (r_int fun k1 t => r_spc (r_none (r_spc (r_none (r_spc (r_none (r_spn (r_newLB S (by simp) fun r0 b1 h₁ kb1 S h0 => r_newL S (by simp) fun rl h₁ S _ => r_stc S rfl rfl rfl fun h₁ S => ?_))))))))))))
  have U := U.kp kb1
  refine wpAny_execs_cons (wpAny_For (r_t1 U S rfl rfl Boot.range (r_int fun k2 t => r_range1 (n := 4) S rfl (by decide) fun Ik h₁ t₁ S hIk => ?_)))
  refine loopW (Walks.range (by exact hh) Ik 0 1 4) (fun a ha q => absurd (List.mem_singleton.mp ha) q) (fun i h q => rangeI q) S hIk
    (fun i b₁ m₁ cm₁ own₁ => ∃ refs, own₁ = [(rl, isL refs)] ∧ RowsO b₁ refs ((List.range (i + 1)).map (rowF (cAt cr))) ∧ FC b₁ cm₁ cr ∧ cm₁ (Str.ofString "rows") = some (.ref rl))
    ⟨_, rfl, RowsO.snoc (refs := []) (rows := []) ⟨rfl, fun i r e => by simp at e⟩ h0 ((((OptI.nil.snoc (o := some 0) ⟨k1, rfl⟩).snoc (o := none) rfl).snoc (o := none) rfl).snoc (o := none) rfl), hC.kp kb1 rfl, rfl⟩ ?_ ?_
  · clear S hC
    rintro k vv b₁ m₁ cm₁ own₁ h₁ t₁ oIk Q' E' hi ⟨tk, rfl⟩ kb2 hJJ S hQ
    obtain ⟨refs, rfl, hR, hC, cl⟩ := hJJ
    have ei : (0 : Int) + (k : Int) * 1 = k := ei0 _
    rw [ei]
    have U := U.kp kb2
    have rll : refs.length = k + 1 := by rw [hR.1, List.length_map, List.length_range]
    refine r_asc S rfl rfl rfl fun h₁ S => ?_
    refine wpAny_execs_cons (r_append (fun Q1 h1 => r_nmc S rfl rfl cl (h1 rl _ _ _ _ _ _ 1 refs S rfl (by first | assumption | exact Nat.le_trans (by assumption) (by decide) | exact Nat.lt_of_lt_of_le (by assumption) (by decide) | exact Int.natCast_nonneg _ | exact Int.ofNat_lt.mpr (lt4 (by assumption)) | exact dep (by assumption) (by decide) | omega) fun Q2 h2 => r_list0 (r_newL S (by simp) fun ra h₂ S2 _ => (h2 _ _ _ _ _ _ _ 2 refs S2 rfl (by first | assumption | exact Nat.le_trans (by assumption) (by decide) | exact Nat.lt_of_lt_of_le (by assumption) (by decide) | exact Int.natCast_nonneg _ | exact Int.ofNat_lt.mpr (lt4 (by assumption)) | exact dep (by assumption) (by decide) | omega) fun h₃ S3 => ?_)))) rfl ⟨_, rfl⟩ rfl rfl)
    refine wpAny_execs_cons (wpAny_For (r_t1 U S3 rfl rfl Boot.range (r_int fun k3 t => r_range1 (n := 4) S3 rfl (by decide) fun Iv h₁ t₁ S hIv => ?_)))
    refine loopW (Walks.range (by exact hh) Iv 0 1 4) (fun a ha q => absurd (List.mem_singleton.mp ha) q) (fun i h q => rangeI q) S hIv
      (fun i b₂ m₂ cm₂ own₂ => ∃ row, own₂ = [(ra, isL row), (Ik, fun o => o = oIk), (rl, isL (refs ++ [Value.ref ra]))] ∧ OptI row ((rowF (cAt cr) (k + 1)).take i) ∧ FC b₂ cm₂ cr ∧ cm₂ (Str.ofString "k") = some (.int (k : Int) tk) ∧ cm₂ (Str.ofString "rows") = some (.ref rl))
      ⟨[], rfl, .nil, hC.kp (Kp.refl _) rfl, rfl, cl⟩ ?_ ?_
    · clear S S3 hC cl
      rintro v vv b₂ m₂ cm₂ own₂ h₂ t₂ oIv Q' E' hi2 ⟨tv, rfl⟩ kb3 hJJ S hQ
      obtain ⟨row, rfl, hI, hC, ck, cl⟩ := hJJ
      have ei2 : (0 : Int) + (v : Int) * 1 = v := ei0 _
      rw [ei2]
      have rwl := hI.1
      rw [List.length_take] at rwl
      refine r_asc S rfl rfl rfl fun h₁ S => ?_
      refine cellR (U.kp kb3) S (hC.kp (cm' := upd cm₂ (Str.ofString "v") (.int (v : Int) tv)) (Kp.refl _) rfl) hG hi hi2 ck rfl cl (hR.kp kb3) (by rw [List.length_map, List.length_range]) (prev := rowF (cAt cr) k) (by rw [List.getElem?_map, List.getElem?_range (Nat.lt_succ_self _)]; rfl) (rowF_good (fun u v hu hv => hG.le hu hv) k) (by first | assumption | exact Nat.le_trans (by assumption) (by decide) | exact Nat.lt_of_lt_of_le (by assumption) (by decide) | exact Int.natCast_nonneg _ | exact Int.ofNat_lt.mpr (lt4 (by assumption)) | exact dep (by assumption) (by decide) | omega) hI hh hr hun
        fun b' m' cm' row' h' t' k' S' hI' c1 c2 c3 => ?_
      refine (hQ _ _ _ _ _ _ k' S' ⟨row', rfl, ?_, hC.kp k' c1, c2.trans ck, c3.trans cl⟩)
      rw [take_snoc (x := some (toldF (aheadF (cAt cr) (rowF (cAt cr) k) v))) (by simp only [rowF]; rw [List.getElem?_map, List.getElem?_range hi2]; rfl)]
      exact hI'
    · clear S S3 hC cl
      rintro b₂ m₂ cm₂ own₂ h₂ t₂ kb3 ⟨row, rfl, hI, hC, ck, cl⟩ S
      obtain ⟨b3, kb4, S', o, ho, n, rfl⟩ := S.freeze
      refine wpAny_execs_nil (hQ _ _ _ _ _ _ (kb3.trans kb4) S' ⟨_, rfl, ?_, hC.kp kb4 rfl, cl⟩)
      have e : (rowF (cAt cr) (k + 1)).take 4 = rowF (cAt cr) (k + 1) := List.take_of_length_le (by rw [(rowF_good (fun u v hu hv => hG.le hu hv) (k + 1)).1]; exact Nat.le_refl _)
      rw [e] at hI
      rw [List.range_succ, List.map_append]
      exact (hR.kp (kb3.trans kb4)).snoc ⟨n, ho⟩ hI
  · clear S hC
    rintro b₁ m₁ cm₁ own₁ h₁ t₁ kb2 ⟨refs, rfl, hR, hC, cl⟩ S
    obtain ⟨b3, kb3, S', o, ho, n, rfl⟩ := S.freeze
    exact q _ _ _ _ _ ((kb1.trans kb2).trans kb3) S' (hC.kp kb3 rfl) ⟨rl, refs, cl, ⟨n, ho⟩, hR.kp kb3⟩
end Mine

open PySem PySem.W PyProof.Rows PySem.Calls
set_option Elab.async false
set_option linter.unusedVariables false
set_option maxRecDepth 100000
namespace Mine
variable {prog : Program} {w : World} {A : Around} {E : Value → Shared → Prop} {mg mb : Str → Option Value}
variable {b h : Heap} {env : Env} {wc : List (Str × Addr)} {m cm : Str → Option Value} {own : Own} {g : Array GenState} {d : Drawn} {t : Nat} {os : OsState}
variable {R : Result → Shared → Prop}

theorem r_truthL {a : Addr} {vs : List Value} {Q : Bool → Shared → Prop} (hl : h.IsList a vs.toArray) (hx : vs.length ≤ 1000) (q : ∀ t', Q (decide (vs.length ≠ 0)) ⟨h, g, d, t', os⟩) : wpAny (model prog w) A (truthy (.ref a)) Q E ⟨h, g, d, t, os⟩ := by
  refine wpAny_truthy_list hl (by rw [List.size_toArray]; omega) ?_
  have e : (!vs.toArray.isEmpty) = decide (vs.length ≠ 0) := by cases vs <;> simp
  rw [e]; exact q _
theorem r_pop {j : Nat} {a : Addr} {vs : List Value} {y : Value} {Q : Value → Shared → Prop} (S : St b env wc m cm own h) (hj : own[j]? = some (a, isL (vs ++ [y]))) (hz : vs.length ≤ 1000)
    (q : ∀ h', St b env wc m cm (own.set j (a, isL vs)) h' → Q y ⟨h', g, d, t, os⟩) : wpAny (model prog w) A (call (.builtin "list.pop") [.ref a]) Q E ⟨h, g, d, t, os⟩ := by
  obtain ⟨o, ho, n, rfl⟩ := S.at hj
  have hsz : (vs ++ [y]).toArray.size = vs.length + 1 := by simp
  refine call_meets (s := ⟨h, g, d, t, os⟩) PySem.F.slot_list_pop ⟨_, ho, rfl⟩ PySem.F.entry_list_pop (PySem.F.args_list_pop_1 _) (MeetsSeq.list_pop_last a (vs ++ [y]).toArray n y (by rw [hsz]; simp) (by rw [hsz, sizeLine_eq]; omega)) ⟨ho, ?_⟩
  have ev : (vs ++ [y]).toArray.eraseIdxIfInBounds ((vs ++ [y]).toArray.size - 1) = vs.toArray := by
    apply Array.ext'
    simp [Array.eraseIdxIfInBounds, List.eraseIdx_append_of_length_le]
  obtain ⟨n', e⟩ : ∃ n', Obj.mapSeq (fun xs => xs.eraseIdxIfInBounds ((vs ++ [y]).toArray.size - 1)) ({ cls := .type "list", data := .seq (vs ++ [y]).toArray n } : Obj) = { cls := .type "list", data := .seq vs.toArray n' } := by
    simp only [Obj.mapSeq, ev]
    exact ⟨_, rfl⟩
  have hu := Heap.get?_update_self (fun o => Obj.mapSeq (fun xs => xs.eraseIdxIfInBounds ((vs ++ [y]).toArray.size - 1)) o) ho (by rw [e]; rfl)
  rw [e] at hu
  exact q _ (S.setO hj (Heap.SameBut.update ..).extBut hu ⟨n', rfl⟩)
theorem r_extend {j : Nat} {a a2 : Addr} {vs ws : List Value} {n2 : Nat} {Q : Value → Shared → Prop} (S : St b env wc m cm own h) (hj : own[j]? = some (a, isL vs)) (ho2 : h.get? a2 = some { cls := .type "list", data := .seq ws.toArray n2 }) (hz : vs.length + ws.length ≤ 1000)
    (q : ∀ h', St b env wc m cm (own.set j (a, isL (vs ++ ws))) h' → Q .none ⟨h', g, d, t, os⟩) : wpAny (model prog w) A (call (.builtin "list.extend") [.ref a, .ref a2]) Q E ⟨h, g, d, t, os⟩ := by
  obtain ⟨o, ho, n, rfl⟩ := S.at hj
  have hlong : ¬(!vs.toArray.isEmpty && Builtin.List.listTooLong (vs.toArray.size + ws.toArray.size)) = true := by
    have : Builtin.List.listTooLong (vs.toArray.size + ws.toArray.size) = false := by
      unfold Builtin.List.listTooLong
      rw [List.size_toArray, List.size_toArray, sizeLine_eq]
      simp; omega
    rw [this]; simp
  refine call_meets (s := ⟨h, g, d, t, os⟩) PySem.F.slot_list_extend ⟨_, ho, rfl⟩ PySem.F.entry_list_extend (PySem.F.args_list_extend_2 _ _) (AutoSeq1.list_extend_list_list_0 a vs.toArray n a2 ws.toArray n2 hlong (by rw [List.size_toArray, sizeLine_eq]; omega) (by rw [List.size_toArray, List.size_toArray, sizeLine_eq]; omega)) ⟨ho, ho2, ?_⟩
  have ev : vs.toArray ++ ws.toArray = (vs ++ ws).toArray := by simp
  obtain ⟨n', e⟩ : ∃ n', Obj.mapSeq (fun x => x ++ ws.toArray) ({ cls := .type "list", data := .seq vs.toArray n } : Obj) = { cls := .type "list", data := .seq (vs ++ ws).toArray n' } := by
    simp only [Obj.mapSeq, ev]
    exact ⟨_, rfl⟩
  have hu := Heap.get?_update_self (fun o => Obj.mapSeq (fun x => x ++ ws.toArray) o) ho (by rw [e]; rfl)
  rw [e] at hu
  exact q _ (S.setO hj (Heap.SameBut.update ..).extBut hu ⟨n', rfl⟩)
theorem preSum_list (xs : List (Int × Tok)) : ∀ k, k ≤ xs.length → preSum (numAt xs.toArray) k = ((xs.map (·.1)).take k).sum
  | 0, _ => by simp [preSum]
  | k + 1, h => by
    have ih := preSum_list xs k (by first | assumption | exact Nat.le_trans (by assumption) (by decide) | exact Nat.lt_of_lt_of_le (by assumption) (by decide) | exact Int.natCast_nonneg _ | exact Int.ofNat_lt.mpr (lt4 (by assumption)) | exact dep (by assumption) (by decide) | omega)
    have e : (xs.map (·.1))[k]? = some (numAt xs.toArray k) := by
      rw [numAt_eq, List.getD_eq_getElem?_getD, List.getElem?_eq_getElem (by rw [List.length_map]; omega)]; rfl
    rw [take_snoc e, List.sum_append]
    simp [preSum, ih]
theorem r_sumL {a : Addr} {vs : List Value} {ns : List Int} {Q : Value → Shared → Prop} (hh : A.handled = none) (S : St b env wc m cm own h) (hl : h.IsList a vs.toArray) (hi : IntsAre vs ns)
    (q : ∀ u h' t', St b env wc m cm own h' → Q (.int ns.sum u) ⟨h', g, d, t', os⟩) : wpAny (model prog w) A (call (.builtin "sum") [.ref a]) Q E ⟨h, g, d, t, os⟩ := by
  obtain ⟨xs, rfl, rfl⟩ := ints_items hi
  have e : (xs.map fun p => Value.int p.1 p.2).toArray = intItems xs.toArray := by simp [intItems]
  rw [e] at hl
  refine sum_intListG (s := ⟨h, g, d, t, os⟩) hh hl fun h' tk t' k => ?_
  have := q t' h' tk (S.kp k)
  rw [List.size_toArray, preSum_list xs xs.length (Nat.le_refl _), List.take_of_length_le (by rw [List.length_map]; exact Nat.le_refl _)]
  exact this
/-- xs[-1] -/
theorem r_subN {value slice : Expr} {a : Addr} {vs : List Value} {i : Int} {v : Tok} {x : Value} {Q : Value → Shared → Prop} (hl : h.IsList a vs.toArray) (h0 : i = -1) (hx : vs[vs.length - 1]? = some x) (q : Q x ⟨h, g, d, t, os⟩)
    (hs : subscripted slice false (.ref a) (.int i v) = operate [.ref a, .int i v] (getItem (.ref a) (.int i v)) := by with_unfolding_all rfl) : wpAny (model prog w) A (subscriptTail value slice (.ref a) (.int i v)) Q E ⟨h, g, d, t, os⟩ := by
  have hlen := (List.getElem?_eq_some_iff.mp hx).1
  subst h0
  refine tail_any (s := ⟨h, g, d, t, os⟩) hl.typeIs PySem.F.slot_list_getitem.lookup (wpAny_getItem_list_neg hl (by first | assumption | exact Nat.le_trans (by assumption) (by decide) | exact Nat.lt_of_lt_of_le (by assumption) (by decide) | exact Int.natCast_nonneg _ | exact Int.ofNat_lt.mpr (lt4 (by assumption)) | exact dep (by assumption) (by decide) | omega) (by rw [List.size_toArray]; omega) (by first | assumption | exact Nat.le_trans (by assumption) (by decide) | exact Nat.lt_of_lt_of_le (by assumption) (by decide) | exact Int.natCast_nonneg _ | exact Int.ofNat_lt.mpr (lt4 (by assumption)) | exact dep (by assumption) (by decide) | omega) ?_ q) hs
  rw [List.size_toArray]
  have e : (-1 + (vs.length : Int)).toNat = vs.length - 1 := by omega
  rw [e]; simpa using hx
theorem getm_list {a : Addr} {vs : List Value} {n : Nat} {name : Str} {id : String} {pl : Sem Bool} {Q : Value × List Value → Shared → Prop} (slot : Slot "list" name id) (hty : typeOf (.builtin id) = pure (.type "method_descriptor"))
    (ho : h.get? a = some { cls := .type "list", data := .seq vs.toArray n }) (q : Q (.builtin id, [.ref a]) ⟨h, g, d, t, os⟩) : wpAny (model prog w) A (getMethod (.ref a) name pl) Q E ⟨h, g, d, t, os⟩ :=
  getMethod_builtin (s := ⟨h, g, d, t, os⟩) ⟨_, ho, rfl⟩ PySem.F.plainAttrs_list slot hty (fun a' e => by cases e; exact ⟨_, ho, rfl⟩) q

/-- the rings, by the loop of the text -/
def extF (way : List Nat) : List (List Nat) := (((List.range (4 - (way.headD 0 + 1))).map fun j => way.headD 0 + 1 + j).filter fun v => !(way.contains v)).map fun v => way ++ [v]
def wstep (s : List (List Nat) × List (List Nat)) : List (List Nat) × List (List Nat) :=
  match s.1.getLast? with
  | none => s
  | some way => (s.1.dropLast ++ extF way, s.2 ++ [way])
def wst : Nat → List (List Nat) × List (List Nat)
  | 0 => ([[0], [1], [2], [3]], [])
  | n + 1 => wstep (wst n)
def rings : List (List Nat) := (wst 24).2
def okWay (way : List Nat) : Bool := way.length != 0 && decide (way.length ≤ 4) && way.all fun v => decide (v < 4)
theorem wst_ok : ∀ i, i < 24 → ∃ way, (wst i).1.getLast? = some way ∧ okWay way = true ∧ (wst i).1.length ≤ 100 ∧ (extF way).length ≤ 100 := by
  have : ∀ i ∈ List.range 24, (match (wst i).1.getLast? with | none => false | some way => okWay way && decide ((wst i).1.length ≤ 100) && decide ((extF way).length ≤ 100)) = true := by decide +kernel
  intro i hi
  have h := this i (List.mem_range.mpr hi)
  cases e : (wst i).1.getLast? with
  | none => rw [e] at h; cases h
  | some way =>
    rw [e] at h
    simp only [Bool.and_eq_true, decide_eq_true_eq] at h
    exact ⟨way, rfl, h.1.1, h.1.2, h.2⟩
theorem wst_end : (wst 24).1 = [] := by decide +kernel
theorem wst_pos : ∀ i, i < 24 → (wst i).1.length ≠ 0 := by
  intro i hi
  obtain ⟨way, h, -⟩ := wst_ok i hi
  intro e
  rw [List.length_eq_zero_iff] at e
  rw [e] at h; cases h
end Mine

open PySem PySem.W PyProof.Rows PySem.Calls
set_option Elab.async false
set_option linter.unusedVariables false
set_option maxRecDepth 100000
namespace Mine
variable {prog : Program} {w : World} {A : Around} {E : Value → Shared → Prop} {mg mb : Str → Option Value}
variable {b h : Heap} {env : Env} {wc : List (Str × Addr)} {m cm : Str → Option Value} {own : Own} {g : Array GenState} {d : Drawn} {t : Nat} {os : OsState}
variable {R : Result → Shared → Prop}

theorem St.thawW {a : Addr} {o : Obj} {P : Obj → Prop} (S : St b env wc m cm own h) (hc : ∀ n c, env.cells.lookup n = some c → wc.lookup n = some c) (ho : b.get? a = some o) (hP : P o) : St (hideAll b [a]) env wc m cm ((a, P) :: own) h := by
  have hn : a ∉ env.locals :: (wc.map (·.2) ++ own.map (·.1)) := fun q => by rw [S.nb a q] at ho; cases ho
  refine ⟨fun x o e => S.keep x o (of_hideAll _ e), S.ns, fun n c e => ⟨(S.cell n c e).1, .inl (hc n c e)⟩, S.wx, fun p hp => ?_, ?_, fun x hx => ?_⟩
  · rcases List.mem_cons.mp hp with rfl | hp
    · exact ⟨o, S.keep _ _ ho, hP⟩
    · exact S.ow p hp
  · have nd := S.nd
    rw [List.nodup_cons, List.nodup_append] at nd ⊢
    rw [List.map_cons, List.nodup_cons]
    refine ⟨fun q => ?_, nd.2.1, ⟨fun q => hn (.tail _ (List.mem_append_right _ q)), nd.2.2.1⟩, fun x hx y hy => ?_⟩
    · rcases List.mem_append.mp q with q | q
      · exact nd.1 (List.mem_append_left _ q)
      · rcases List.mem_cons.mp q with q | q
        · exact hn (q ▸ List.mem_cons_self ..)
        · exact nd.1 (List.mem_append_right _ q)
    · rcases List.mem_cons.mp hy with rfl | hy
      · exact fun q => hn (by rw [← q]; exact .tail _ (List.mem_append_left _ hx))
      · exact nd.2.2.2 x hx y hy
  · have hid : b.get? x = none → (hideAll b [a]).get? x = none := fun e => by
      cases q : (hideAll b [a]).get? x with
      | none => rfl
      | some o => rw [of_hideAll _ q] at e; cases e
    rcases List.mem_cons.mp hx with rfl | hx
    · exact hid (S.nb _ (List.mem_cons_self ..))
    · rcases List.mem_append.mp hx with hx | hx
      · exact hid (S.nb _ (.tail _ (List.mem_append_left _ hx)))
      · rcases List.mem_cons.mp hx with rfl | hx
        · exact hideAll_none _ (List.mem_cons_self ..)
        · exact hid (S.nb _ (.tail _ (List.mem_append_right _ hx)))
theorem hide_kp {a : Addr} (k : Kp b h) (ha : b.get? a = none) : Kp b (hideAll h [a]) := fun x o e => hideAll_get _ (k x o e) (fun q => by rw [List.mem_singleton.mp q, ha] at e; cases e)

theorem r_newLF {vs : List Value} {Q : Value → Shared → Prop} (S : St b env wc m cm own h) (hl : vs.length ≤ 1000) (q : ∀ a b' h', Kp b b' → St b' env wc m cm own h' → b'.PlainList a vs.toArray → h.get? a = none → Q (.ref a) ⟨h', g, d, t, os⟩) :
    wpAny (model prog w) A (newList vs) Q E ⟨h, g, d, t, os⟩ := by
  obtain ⟨b', k, S', hb⟩ := S.pushB (o := { cls := .type "list", data := .seq vs.toArray }) rfl
  exact wpAny_newList (q _ b' _ k S' ⟨_, hb⟩ (size_none h)) (by rw [sizeLine_eq]; omega)
/-- lists of ints made after a heap -/
def RowsN (bc b : Heap) (refs : List Value) (rows : List (List Int)) : Prop := refs.length = rows.length ∧ ∀ (i : Nat) (r : List Int), rows[i]? = some r → ∃ a vs, refs[i]? = some (.ref a) ∧ b.PlainList a (List.toArray vs) ∧ IntsAre vs r ∧ bc.get? a = none
theorem RowsN.nil {bc b : Heap} : RowsN bc b [] [] := ⟨rfl, fun i r e => by simp at e⟩
theorem RowsN.kp {bc b b' : Heap} {refs : List Value} {rows : List (List Int)} (k : Kp b b') (f : RowsN bc b refs rows) : RowsN bc b' refs rows :=
  ⟨f.1, fun i r e => let ⟨a, vs, h1, h2, h3, h4⟩ := f.2 i r e; ⟨a, vs, h1, plain_kp k h2, h3, h4⟩⟩
theorem RowsN.rows {bc b b' : Heap} {refs : List Value} {rows : List (List Int)} (k : ∀ a o, bc.get? a = none → b.get? a = some o → b'.get? a = some o) (f : RowsN bc b refs rows) : RowsAre b' refs rows :=
  ⟨f.1, fun i r e => let ⟨a, vs, h1, ⟨n, h2⟩, h3, h4⟩ := f.2 i r e; ⟨a, vs, h1, ⟨n, k _ _ h4 h2⟩, h3⟩⟩
theorem RowsN.snoc {bc b : Heap} {refs : List Value} {rows : List (List Int)} {a : Addr} {vs : List Value} {r : List Int} (f : RowsN bc b refs rows) (hp : b.PlainList a vs.toArray) (hi : IntsAre vs r) (hn : bc.get? a = none) : RowsN bc b (refs ++ [Value.ref a]) (rows ++ [r]) := by
  refine ⟨by simp [f.1], fun i y e => ?_⟩
  by_cases h : i < rows.length
  · rw [List.getElem?_append_left h] at e
    obtain ⟨a', vs', h1, h2, h3⟩ := f.2 i y e
    exact ⟨a', vs', by rw [List.getElem?_append_left (by rw [f.1]; exact h)]; exact h1, h2, h3⟩
  · rw [List.getElem?_append_right (by first | assumption | exact Nat.le_trans (by assumption) (by decide) | exact Nat.lt_of_lt_of_le (by assumption) (by decide) | exact Int.natCast_nonneg _ | exact Int.ofNat_lt.mpr (lt4 (by assumption)) | exact dep (by assumption) (by decide) | omega)] at e
    have hi' : i - rows.length = 0 := by
      have := (List.getElem?_eq_some_iff.mp e).1
      simp at this; omega
    rw [hi'] at e; cases e
    exact ⟨a, vs, by rw [List.getElem?_append_right (by have := f.1; omega), f.1, hi']; rfl, hp, hi, hn⟩
theorem RowsAre.pop {refs : List Value} {rows : List (List Int)} {r : List Int} (f : RowsAre b refs (rows ++ [r])) : ∃ refs' a vs, refs = refs' ++ [.ref a] ∧ RowsAre b refs' rows ∧ b.PlainList a (List.toArray vs) ∧ IntsAre vs r := by
  have hl : refs.length = rows.length + 1 := by rw [f.1]; simp
  obtain ⟨a, vs, h1, h2, h3⟩ := f.2 rows.length r (by rw [List.getElem?_append_right (Nat.le_refl _), Nat.sub_self]; rfl)
  refine ⟨refs.take rows.length, a, vs, ?_, ⟨by rw [List.length_take]; omega, fun i y e => ?_⟩, h2, h3⟩
  · rw [← take_snoc h1, List.take_of_length_le (by first | assumption | exact Nat.le_trans (by assumption) (by decide) | exact Nat.lt_of_lt_of_le (by assumption) (by decide) | exact Int.natCast_nonneg _ | exact Int.ofNat_lt.mpr (lt4 (by assumption)) | exact dep (by assumption) (by decide) | omega)]
  · have hi := (List.getElem?_eq_some_iff.mp e).1
    obtain ⟨a', vs', g1, g2, g3⟩ := f.2 i y (by rw [List.getElem?_append_left hi]; exact e)
    exact ⟨a', vs', by rw [List.getElem?_take]; rw [if_pos hi]; exact g1, g2, g3⟩
theorem RowsAre.append {r1 r2 : List Value} {x1 x2 : List (List Int)} (f : RowsAre b r1 x1) (f2 : RowsAre b r2 x2) : RowsAre b (r1 ++ r2) (x1 ++ x2) := by
  refine ⟨by simp [f.1, f2.1], fun i y e => ?_⟩
  by_cases h : i < x1.length
  · rw [List.getElem?_append_left h] at e
    obtain ⟨a, vs, h1, h2, h3⟩ := f.2 i y e
    exact ⟨a, vs, by rw [List.getElem?_append_left (by rw [f.1]; exact h)]; exact h1, h2, h3⟩
  · rw [List.getElem?_append_right (by first | assumption | exact Nat.le_trans (by assumption) (by decide) | exact Nat.lt_of_lt_of_le (by assumption) (by decide) | exact Int.natCast_nonneg _ | exact Int.ofNat_lt.mpr (lt4 (by assumption)) | exact dep (by assumption) (by decide) | omega)] at e
    obtain ⟨a, vs, h1, h2, h3⟩ := f2.2 _ y e
    exact ⟨a, vs, by rw [List.getElem?_append_right (by rw [f.1]; omega), f.1]; exact h1, h2, h3⟩
theorem FR.kp {b b' : Heap} {cm cm' : Str → Option Value} {rows : List (List (Option Nat))} (k : Kp b b') (e : cm' (Str.ofString "rows") = cm (Str.ofString "rows")) (f : FR b cm rows) : FR b' cm' rows := by
  obtain ⟨ca, refs, h1, h2, h3⟩ := f
  exact ⟨ca, refs, e.trans h1, plain_kp k h2, h3.kp k⟩

def prevI (n i : Nat) : Nat := if i = 0 then n - 1 else i - 1
theorem r_subP {value slice : Expr} {a : Addr} {vs : List Value} {i : Nat} {v : Tok} {x : Value} {Q : Value → Shared → Prop} (hl : h.IsList a vs.toArray) (hi : i < 1000) (hx : vs[prevI vs.length i]? = some x) (q : Q x ⟨h, g, d, t, os⟩)
    (hs : subscripted slice false (.ref a) (.int ((i : Int) - 1) v) = operate [.ref a, .int ((i : Int) - 1) v] (getItem (.ref a) (.int ((i : Int) - 1) v)) := by with_unfolding_all rfl) : wpAny (model prog w) A (subscriptTail value slice (.ref a) (.int ((i : Int) - 1) v)) Q E ⟨h, g, d, t, os⟩ := by
  unfold prevI at hx
  by_cases h0 : i = 0
  · rw [if_pos h0] at hx
    exact r_subN hl (by first | assumption | exact Nat.le_trans (by assumption) (by decide) | exact Nat.lt_of_lt_of_le (by assumption) (by decide) | exact Int.natCast_nonneg _ | exact Int.ofNat_lt.mpr (lt4 (by assumption)) | exact dep (by assumption) (by decide) | omega) hx q hs
  · rw [if_neg h0] at hx
    have e : ((i : Int) - 1).toNat = i - 1 := by omega
    exact r_subL hl (by first | assumption | exact Nat.le_trans (by assumption) (by decide) | exact Nat.lt_of_lt_of_le (by assumption) (by decide) | exact Int.natCast_nonneg _ | exact Int.ofNat_lt.mpr (lt4 (by assumption)) | exact dep (by assumption) (by decide) | omega) (by first | assumption | exact Nat.le_trans (by assumption) (by decide) | exact Nat.lt_of_lt_of_le (by assumption) (by decide) | exact Int.natCast_nonneg _ | exact Int.ofNat_lt.mpr (lt4 (by assumption)) | exact dep (by assumption) (by decide) | omega) (by rw [e]; simpa using hx) q hs
def termF (c : Nat → Nat → Nat) (way : List Nat) (i : Nat) : Int := ((c (way.getD (prevI way.length i) 0) (way.getD i 0) : Nat) : Int)
def meanF (c : Nat → Nat → Nat) (way : List Nat) : Int := ((((List.range way.length).map (termF c way)).sum) * 12).fdiv way.length
def castL (l : List Nat) : List Int := l.map fun (n : Nat) => (n : Int)
def castW (l : List (List Nat)) : List (List Int) := l.map castL
theorem sum_bound {B : Nat} : ∀ (l : List Int), (∀ x ∈ l, 0 ≤ x ∧ x ≤ B) → 0 ≤ l.sum ∧ l.sum ≤ B * l.length
  | [], _ => by simp
  | x :: l, h => by
    have ih := sum_bound l fun y hy => h y (.tail _ hy)
    have hx := h x (.head _)
    rw [List.sum_cons, List.length_cons]
    have e : (B : Int) * ((l.length + 1 : Nat) : Int) = B * l.length + B := by
      rw [Int.natCast_add, Int.mul_add]; simp
    rw [e]; omega
theorem okWay_get {way : List Nat} (h : okWay way = true) : 0 < way.length ∧ way.length ≤ 4 ∧ ∀ i, i < way.length → way.getD i 0 < 4 := by
  simp only [okWay, Bool.and_eq_true, bne_iff_ne, ne_eq, decide_eq_true_eq, List.all_eq_true] at h
  refine ⟨by omega, h.1.2, fun i hi => ?_⟩
  rw [List.getD_eq_getElem?_getD, List.getElem?_eq_getElem hi]
  exact h.2 _ (List.getElem_mem hi)
theorem castL_get {vs : List Value} {way : List Nat} (h : IntsAre vs (castL way)) {i : Nat} (hi : i < way.length) : ∃ u, vs[i]? = some (.int ((way.getD i 0 : Nat) : Int) u) := by
  obtain ⟨u, hu⟩ := ints_get i h (by unfold castL; rw [List.length_map]; exact hi)
  refine ⟨u, hu.trans ?_⟩
  unfold castL
  rw [List.getD_eq_getElem?_getD, List.getElem?_map, List.getD_eq_getElem?_getD, List.getElem?_eq_getElem hi]; rfl
theorem prevI_lt {n i : Nat} (h0 : 0 < n) (hi : i < n) : prevI n i < n := by unfold prevI; split <;> omega
end Mine

open PySem PySem.W PyProof.Rows PySem.Calls
set_option Elab.async false
set_option linter.unusedVariables false
set_option maxRecDepth 100000
namespace Mine
variable {prog : Program} {w : World} {A : Around} {E : Value → Shared → Prop} {mg mb : Str → Option Value}
variable {b h : Heap} {env : Env} {wc : List (Str × Addr)} {m cm : Str → Option Value} {own : Own} {g : Array GenState} {d : Drawn} {t : Nat} {os : OsState}
variable {R : Result → Shared → Prop}

def whileBody : Stmt → List Stmt
  | .While _ body _ _ => body
  | _ => []
def lawD1 : List Stmt := whileBody (nthS lawBody 13)
def extP (way : List Nat) (i : Nat) : List (List Nat) := (((List.range i).map fun j => way.headD 0 + 1 + j).filter fun v => !(way.contains v)).map fun v => way ++ [v]
theorem extP_end (way : List Nat) : extP way (4 - (way.headD 0 + 1)) = extF way := rfl
theorem extP_succ (way : List Nat) (i : Nat) : extP way (i + 1) = extP way i ++ (if way.contains (way.headD 0 + 1 + i) then [] else [way ++ [way.headD 0 + 1 + i]]) := by
  unfold extP
  rw [List.range_succ, List.map_append, List.filter_append, List.map_append]
  congr 1
  by_cases h : way.contains (way.headD 0 + 1 + i) = true
  · rw [if_pos h]
    simp only [List.map_cons, List.map_nil, List.filter_cons, h]; rfl
  · rw [if_neg h]
    have h : way.contains (way.headD 0 + 1 + i) = false := Bool.eq_false_iff.mpr h
    simp only [List.map_cons, List.map_nil, List.filter_cons, h]; rfl
theorem castL_any (way : List Nat) (n : Nat) : (castL way).any (fun x => x == (n : Int)) = way.contains n := by
  induction way with
  | nil => rfl
  | cons x r ih =>
    have ih' : (castL r).any (fun x => x == (n : Int)) = r.contains n := ih
    rw [show castL (x :: r) = (x : Int) :: castL r from rfl, List.any_cons, ih', List.contains_cons]
    congr 1
    by_cases h : n = x
    · subst h; simp
    · have h1 : ((x : Int) == (n : Int)) = false := by simp; omega
      have h2 : (n == x) = false := by simp [h]
      rw [h1, h2]
theorem castL_app (way : List Nat) (n : Nat) : castL (way ++ [n]) = castL way ++ [(n : Int)] := by simp [castL]
theorem headD_getD (way : List Nat) : way.getD 0 0 = way.headD 0 := by cases way <;> rfl

theorem toA {vs : List Value} {i : Nat} {x : Value} (e : vs[i]? = some x) : vs.toArray[((i : Nat) : Int).toNat]? = some x := by
  rw [Int.toNat_natCast, List.getElem?_toArray]; exact e
set_option maxHeartbeats 8000000 in
theorem wayW {L fa wl ml : Addr} {cd : Value} {wrefs ms : List Value} {cr : List (List Int)} {ws : List (List Nat)} {way : List Nat} {Q : Flow → Shared → Prop} (U : Up w mg mb b) (S : St b (lawEnv L fa cd) (lawCells L) m cm [(wl, isL wrefs), (ml, isL ms)] h)
    (mw : m (Str.ofString "ways") = some (.ref wl)) (mm : m (Str.ofString "means") = some (.ref ml)) (hW : RowsAre b wrefs (castW ws ++ [castL way])) (hok : okWay way = true) (hwl : ws.length ≤ 100) (hel : (extF way).length ≤ 100) (hml : ms.length ≤ 100)
    (hC : FC b cm cr) (hG : Grid cr) (hh : A.handled = none) (hr : A.depth + 100 < recursionLimit) (hun : A.units + 70 < cLine)
    (q : ∀ b' cm' wrefs' u h' t', Kp b b' → St b' (lawEnv L fa cd) (lawCells L) m cm' [(wl, isL wrefs'), (ml, isL (ms ++ [Value.int (meanF (cAt cr) way) u]))] h' → RowsAre b' wrefs' (castW (ws ++ extF way)) → cm' (Str.ofString "costs") = cm (Str.ofString "costs") → cm' (Str.ofString "rows") = cm (Str.ofString "rows") → Q .next ⟨h', g, d, t', os⟩) :
    wpAny (model prog w) A (execs lawD1 (lawEnv L fa cd)) Q E ⟨h, g, d, t, os⟩ := by
  obtain ⟨wr, wa, wv, rfl, hW', hwp, hwi⟩ := hW.pop
  obtain ⟨o1, o2, o3⟩ := okWay_get hok
  have hlw : wr.length = ws.length := by rw [hW'.1]; unfold castW; rw [List.length_map]
  have hwv : wv.length = way.length := by rw [hwi.length]; unfold castL; rw [List.length_map]
  obtain ⟨ca, crefs, cc, hca, hcr⟩ := hC
  obtain ⟨oW, hoW, nW, rfl⟩ := S.at (i := 0) rfl
  refine wpAny_execs_cons (wpAny_Assign_Name (MethodCall_ (r_nm S rfl mw (getm_list PySem.F.slot_list_pop PySem.F.type_list_pop hoW (callWith_method0 (r_pop (j := 0) S rfl (by first | assumption | exact Nat.le_trans (by assumption) (by decide) | exact Nat.lt_of_lt_of_le (by assumption) (by decide) | exact Int.natCast_nonneg _ | exact Int.ofNat_lt.mpr (lt4 (by assumption)) | exact dep (by assumption) (by decide) | omega) fun h₁ S => r_stc S rfl rfl rfl fun h₁ S => ?_))))))
  refine wpAny_execs_cons (r_append (fun Q1 h1 => r_nm S rfl mm (h1 ml _ _ _ _ _ _ 1 ms S rfl (by first | assumption | exact Nat.le_trans (by assumption) (by decide) | exact Nat.lt_of_lt_of_le (by assumption) (by decide) | exact Int.natCast_nonneg _ | exact Int.ofNat_lt.mpr (lt4 (by assumption)) | exact dep (by assumption) (by decide) | omega) fun Q2 h2 => ?_)) rfl ⟨_, rfl⟩ rfl rfl)
  refine wpAny_BinOp (wpAny_BinOp (r_b1 U S rfl rfl Boot.sum (r_lc rfl rfl rfl (r_t1 U S rfl rfl Boot.range (r_b1 U S rfl rfl Boot.len (r_nmc S rfl rfl rfl (r_lenL (list_kp hwp.isList S.keep) (by first | assumption | exact Nat.le_trans (by assumption) (by decide) | exact Nat.lt_of_lt_of_le (by assumption) (by decide) | exact Int.natCast_nonneg _ | exact Int.ofNat_lt.mpr (lt4 (by assumption)) | exact dep (by assumption) (by decide) | omega) fun k1 t => r_range1 (n := wv.length) S rfl (by first | assumption | exact Nat.le_trans (by assumption) (by decide) | exact Nat.lt_of_lt_of_le (by assumption) (by decide) | exact Int.natCast_nonneg _ | exact Int.ofNat_lt.mpr (lt4 (by assumption)) | exact dep (by assumption) (by decide) | omega) fun I h₁ t₁ S hIt => ?_)))))))
  refine compW (Walks.range (by exact hh) I 0 1 wv.length) (fun a ha => (List.mem_singleton.mp ha) ▸ rangeI hIt) (fun i h q => rangeI q) S hIt (ClOk.all ⟨rfl, rfl, trivial⟩) rfl rfl rfl (by rw [sizeLine_eq]; omega)
    (fun _ i _ ys => IntsAre ys (((List.range way.length).map (termF (cAt cr) way)).take i)) (fun _ _ _ => .nil) ?_ ?_
  · rintro i vv bc C D b₁ m₁ ys h₁ t₁ oI E' Q' Z' hi ⟨k2, rfl⟩ kb Sb kb₁ hJ hx S hQ hZ
    have ei : (0 : Int) + (i : Int) * 1 = i := ei0 _
    rw [ei] at hx
    have hi' : i < way.length := by omega
    have hp := prevI_lt o1 hi'
    have hq1 := o3 _ hp
    have hq2 := o3 _ hi'
    obtain ⟨k3, hk3⟩ := castL_get hwi hi'
    obtain ⟨k4, hk4⟩ := castL_get hwi hp
    have hk4' : wv[prevI wv.length i]? = some (.int ((way.getD (prevI way.length i) 0 : Nat) : Int) k4) := by rw [hwv]; exact hk4
    obtain ⟨cra, crv, k5, g1, g2, g3⟩ := cost_at hcr hG (o3 _ hp) (o3 _ hi')
    have hlW := plain_kp (kb.trans kb₁) hwp
    have hlC := plain_kp (kb.trans kb₁) hca
    have hlR := plain_kp (kb.trans kb₁) g2
    refine wpAny_tests_nil ?_
    rw [if_pos rfl]
    refine Subscript_ (Subscript_ (r_nmc S rfl rfl cc (Subscript_ (r_nmc S rfl rfl rfl (wpAny_BinOp (r_nm S rfl hx (r_int fun k6 t => r_sub fun k7 t => r_subP (list_kp hlW.isList S.keep) (by first | assumption | exact Nat.le_trans (by assumption) (by decide) | exact Nat.lt_of_lt_of_le (by assumption) (by decide) | exact Int.natCast_nonneg _ | exact Int.ofNat_lt.mpr (lt4 (by assumption)) | exact dep (by assumption) (by decide) | omega) hk4' (r_ix (list_kp hlC.isList S.keep) (lt4 hq1) g1 ?_))))))))
    refine Subscript_ (r_nmc S rfl rfl rfl (r_nm S rfl hx (r_ix (list_kp hlW.isList S.keep) (lt4 (Nat.lt_of_lt_of_le hi' o2)) hk3 (r_ix (list_kp hlR.isList S.keep) (lt4 hq2) g3 (hQ _ _ _ _ _ (Kp.refl _) S ?_)))))
    rw [take_snoc (x := termF (cAt cr) way i) (by rw [List.getElem?_map, List.getElem?_range hi']; rfl)]
    exact ints_snoc hJ
  intro bc b₁ b2 C D ys h' t' hJ kb kb2 hn hD hL S
  refine post_none S fun h' S => ?_
  have etk : ((List.range way.length).map (termF (cAt cr) way)).take wv.length = (List.range way.length).map (termF (cAt cr) way) := List.take_of_length_le (by rw [List.length_map, List.length_range, hwv]; exact Nat.le_refl _)
  rw [etk] at hJ
  have sb := sum_bound (B := 10) ((List.range way.length).map (termF (cAt cr) way)) (fun x hx => by
    obtain ⟨i, hi, rfl⟩ := List.mem_map.mp hx
    have hi := List.mem_range.mp hi
    have := hG.le (o3 _ (prevI_lt o1 hi)) (o3 _ hi)
    unfold termF
    omega)
  rw [List.length_map, List.length_range] at sb
  have em : meanF (cAt cr) way = ((((List.range way.length).map (termF (cAt cr) way)).sum) * 12).fdiv way.length := rfl
  generalize ((List.range way.length).map (termF (cAt cr) way)) = tl at *
  have U2 := U.kp kb2
  have hlW := plain_kp kb2 hwp
  refine r_sumL (by exact hh) S (list_kp hL.isList S.keep) hJ fun k2 h₁ t₁ S => r_int fun k3 t => r_mul (by first | assumption | exact Nat.le_trans (by assumption) (by decide) | exact Nat.lt_of_lt_of_le (by assumption) (by decide) | exact Int.natCast_nonneg _ | exact Int.ofNat_lt.mpr (lt4 (by assumption)) | exact dep (by assumption) (by decide) | omega) (by first | assumption | exact Nat.le_trans (by assumption) (by decide) | exact Nat.lt_of_lt_of_le (by assumption) (by decide) | exact Int.natCast_nonneg _ | exact Int.ofNat_lt.mpr (lt4 (by assumption)) | exact dep (by assumption) (by decide) | omega) fun k4 t => r_b1 U2 S rfl rfl Boot.len (r_nmc S rfl rfl rfl (r_lenL (list_kp hlW.isList S.keep) (by first | assumption | exact Nat.le_trans (by assumption) (by decide) | exact Nat.lt_of_lt_of_le (by assumption) (by decide) | exact Int.natCast_nonneg _ | exact Int.ofNat_lt.mpr (lt4 (by assumption)) | exact dep (by assumption) (by decide) | omega) fun k5 t => r_fdiv (by first | assumption | exact Nat.le_trans (by assumption) (by decide) | exact Nat.lt_of_lt_of_le (by assumption) (by decide) | exact Int.natCast_nonneg _ | exact Int.ofNat_lt.mpr (lt4 (by assumption)) | exact dep (by assumption) (by decide) | omega) (by first | assumption | exact Nat.le_trans (by assumption) (by decide) | exact Nat.lt_of_lt_of_le (by assumption) (by decide) | exact Int.natCast_nonneg _ | exact Int.ofNat_lt.mpr (lt4 (by assumption)) | exact dep (by assumption) (by decide) | omega) fun k6 t => (h2 _ _ _ _ _ _ _ 1 ms S rfl (by first | assumption | exact Nat.le_trans (by assumption) (by decide) | exact Nat.lt_of_lt_of_le (by assumption) (by decide) | exact Int.natCast_nonneg _ | exact Int.ofNat_lt.mpr (lt4 (by assumption)) | exact dep (by assumption) (by decide) | omega) fun h₃ S3 => ?_)))
  rw [hwv, ← em] at S3
  replace S3 : St b2 (lawEnv L fa cd) (lawCells L) m (upd cm (Str.ofString "way") (.ref wa)) [(wl, isL wr), (ml, isL (ms ++ [Value.int (meanF (cAt cr) way) k6]))] h₃ := S3
  clear S hJ hL hn hD kb etk sb em
  obtain ⟨oW', hoW', nW', rfl⟩ := S3.at (i := 0) rfl
  obtain ⟨k7, hk7⟩ := castL_get hwi o1
  have h04 := o3 0 o1
  have hhd := headD_getD way
  refine wpAny_execs_cons (wpAny_Expr (MethodCall_ (r_nm S3 rfl mw (getm_list PySem.F.slot_list_extend PySem.F.type_list_extend hoW' (callWith_method1 (r_arg1 (r_lc rfl rfl rfl (r_t2 U2 S3 rfl rfl Boot.range (wpAny_BinOp (Subscript_ (r_nmc S3 rfl rfl rfl (r_int fun k8 t => r_subL (list_kp hlW.isList S3.keep) (by omega) (by omega) (toA hk7) (r_int fun k9 t => r_add fun k10 t => r_int fun k11 t => r_range2 (n := 4 - (way.headD 0 + 1)) S3 (by omega) (by omega) (by omega) (by omega) (by omega) fun I h₁ t₁ S hIt => ?_)))))))))))))
  refine compW (Walks.range (by exact hh) I (((way.getD 0 0 : Nat) : Int) + 1) 1 (4 - (way.headD 0 + 1))) (fun a ha => (List.mem_singleton.mp ha) ▸ rangeI hIt) (fun i h q => rangeI q) S hIt (ClOk.all ⟨rfl, trivial⟩) rfl rfl rfl (by rw [sizeLine_eq]; omega)
    (fun bc i b ys => RowsN bc b ys (castW (extP way i))) (fun _ _ _ => .nil) ?_ ?_
  · rintro i vv bc C D2 b₁ m₁ ys h₁ t₁ oI E' Q' Z' hi ⟨k12, rfl⟩ kb Sb kb₁ hJ hx S hQ hZ
    have ek : ((way.getD 0 0 : Nat) : Int) + 1 + (i : Int) * 1 = ((way.headD 0 + 1 + i : Nat) : Int) := by rw [hhd]; omega
    rw [ek] at hx
    have hlW' := plain_kp (kb.trans kb₁) hlW
    refine wpAny_tests_one (wpAny_isTrue_Compare1 (r_nm S rfl hx (r_nmc S rfl rfl rfl (notin_list_ints (list_kp hlW'.isList S.keep) hwi (wpAny_truthy_bool ?_)))))
    rw [castL_any]
    by_cases hc : way.contains (way.headD 0 + 1 + i) = true
    · rw [hc, if_neg (by decide)]
      refine (hZ _ _ _ _ (Kp.refl _) S ?_)
      rw [extP_succ, if_pos hc, List.append_nil]
      exact hJ
    · have hc' := Bool.eq_false_iff.mpr hc
      rw [hc', if_pos (by decide)]
      obtain ⟨nw, ew⟩ := hlW'
      refine wpAny_BinOp (r_nmc S rfl rfl rfl (r_list1 (r_nm S rfl hx (r_newLk S (by simp) fun la h₂ S kl e2 _ => r_addL (S.keep _ _ ew) e2 (by simp; omega) ?_))))
      obtain ⟨b4, k4', S4, hb4⟩ := S.pushB (o := { cls := .type "list", data := .seq (wv ++ [Value.int ((way.headD 0 + 1 + i : Nat) : Int) k12]).toArray }) rfl
      refine (hQ _ b4 _ _ _ k4' S4 ?_)
      rw [extP_succ, if_neg hc]
      unfold castW
      rw [List.map_append]
      refine (hJ.kp k4').snoc ⟨_, hb4⟩ ?_ (none_of_kp (kb₁.trans S.keep) (size_none _))
      rw [castL_app]
      exact ints_snoc hwi
  intro bc b₁ b3 C D2 ys h' t' hJ kb kb3 hn hD hL S
  refine post_none S fun h' S => ?_
  have hys := hJ.rows hn
  rw [extP_end] at hys
  have hysl : ys.length = (extF way).length := by rw [hys.1]; unfold castW; rw [List.length_map]
  obtain ⟨nD, eD⟩ := hL
  refine r_extend (j := 0) S rfl (S.keep _ _ eD) (by first | assumption | exact Nat.le_trans (by assumption) (by decide) | exact Nat.lt_of_lt_of_le (by assumption) (by decide) | exact Int.natCast_nonneg _ | exact Int.ofNat_lt.mpr (lt4 (by assumption)) | exact dep (by assumption) (by decide) | omega) fun h₁ S => ?_
  refine wpAny_execs_nil (q _ _ _ k6 _ _ (kb2.trans kb3) S ?_ rfl rfl)
  unfold castW
  rw [List.map_append]
  exact (hW'.kp (kb2.trans kb3)).append hys
end Mine

open PySem PySem.W PyProof.Rows PySem.Calls
set_option Elab.async false
set_option linter.unusedVariables false
set_option maxRecDepth 100000
namespace Mine
variable {prog : Program} {w : World} {A : Around} {E : Value → Shared → Prop} {mg mb : Str → Option Value}
variable {b h : Heap} {env : Env} {wc : List (Str × Addr)} {m cm : Str → Option Value} {own : Own} {g : Array GenState} {d : Drawn} {t : Nat} {os : OsState}
variable {R : Result → Shared → Prop}

theorem wst_len2 : ∀ i, i ≤ 24 → (wst i).2.length = i := by
  have : ∀ i ∈ List.range 25, (wst i).2.length = i := by decide +kernel
  exact fun i h => this i (List.mem_range.mpr (by first | assumption | exact Nat.le_trans (by assumption) (by decide) | exact Nat.lt_of_lt_of_le (by assumption) (by decide) | exact Int.natCast_nonneg _ | exact Int.ofNat_lt.mpr (lt4 (by assumption)) | exact dep (by assumption) (by decide) | omega))
theorem wst_len1 : ∀ i, i ≤ 24 → (wst i).1.length ≤ 100 := by
  have : ∀ i ∈ List.range 25, (wst i).1.length ≤ 100 := by decide +kernel
  exact fun i h => this i (List.mem_range.mpr (by first | assumption | exact Nat.le_trans (by assumption) (by decide) | exact Nat.lt_of_lt_of_le (by assumption) (by decide) | exact Int.natCast_nonneg _ | exact Int.ofNat_lt.mpr (lt4 (by assumption)) | exact dep (by assumption) (by decide) | omega))
theorem wst_step {i : Nat} {way : List Nat} (h : (wst i).1.getLast? = some way) : wst (i + 1) = ((wst i).1.dropLast ++ extF way, (wst i).2 ++ [way]) := by
  show wstep (wst i) = _
  unfold wstep
  rw [h]
theorem last_split {l : List (List Nat)} {x : List Nat} (h : l.getLast? = some x) : l = l.dropLast ++ [x] := by
  have hne : l ≠ [] := by intro e; rw [e] at h; cases h
  rw [List.getLast?_eq_some_getLast hne] at h
  cases h
  exact (List.dropLast_concat_getLast hne).symm
/-- the means are laid -/
def FM (b : Heap) (m : Str → Option Value) (ns : List Int) : Prop := ∃ ml ms, m (Str.ofString "means") = some (.ref ml) ∧ b.PlainList ml (List.toArray ms) ∧ IntsAre ms ns
def meansF (c : Nat → Nat → Nat) : List Int := rings.map (meanF c)

set_option maxHeartbeats 8000000 in
theorem segD {L fa : Addr} {cd : Value} {cr : List (List Int)} {rows : List (List (Option Nat))} {Q : Flow → Shared → Prop} (U : Up w mg mb b) (S : St b (lawEnv L fa cd) (lawCells L) m cm [] h) (hC : FC b cm cr) (hG : Grid cr) (hR : FR b cm rows)
    (hh : A.handled = none) (hr : A.depth + 100 < recursionLimit) (hun : A.units + 70 < cLine)
    (q : ∀ b' m' cm' h' t', Kp b b' → St b' (lawEnv L fa cd) (lawCells L) m' cm' [] h' → FR b' cm' rows → FM b' m' (meansF (cAt cr)) → wpAny (model prog w) A (execs (lawBody.drop 14) (lawEnv L fa cd)) Q E ⟨h', g, d, t', os⟩) :
    wpAny (model prog w) A (execs (lawBody.drop 11) (lawEnv L fa cd)) Q E ⟨h, g, d, t, os⟩ := by
  refine wpAny_execs_cons (wpAny_Assign_Name (r_list0 (r_newL S (by simp) fun ml h₁ S hml => r_st S rfl fun h₁ t₁ S => ?_)))
  refine wpAny_execs_cons (r_alc rfl rfl rfl rfl (r_t1 U S rfl rfl Boot.range (r_int fun k1 t => r_range1 (n := 4) S rfl (by decide) fun I h₁ t₁ S hIt => ?_)))
  refine compW (Walks.range (by exact hh) I 0 1 4) (fun a ha => (List.mem_singleton.mp ha) ▸ rangeI hIt) (fun i h q => rangeI q) S hIt (ClOk.all trivial) rfl rfl rfl (by rw [sizeLine_eq]; decide)
    (fun bc i b ys => RowsN bc b ys (castW ((List.range i).map fun u => [u]))) (fun _ _ _ => .nil) ?_ ?_
  · rintro i vv bc C D b₁ m₁ ys h₁ t₁ oI E' Q' Z' hi ⟨k2, rfl⟩ kb Sb kb₁ hJ hx S hQ hZ
    have ei : (0 : Int) + (i : Int) * 1 = i := ei0 _
    rw [ei] at hx
    refine wpAny_tests_nil ?_
    rw [if_pos rfl]
    refine r_list1 (r_nm S rfl hx (r_newLF S (by simp) fun la b4 h₂ kb4 S4 hla hnla => (hQ _ b4 _ _ _ kb4 S4 ?_)))
    unfold castW
    rw [List.range_succ, List.map_append, List.map_append]
    exact (hJ.kp kb4).snoc hla (.cons _ _ .nil) (none_of_kp (kb₁.trans S.keep) hnla)
  intro bc b₁ b2 C wl ys h' t' hJ kb kb2 hn hwl hL S
  refine post_use S rfl fun h' t' S => ?_
  have hys := hJ.rows hn
  obtain ⟨nL, eL⟩ := hL
  have hbn := none_of_kp kb hwl
  have kh := hide_kp kb2 hbn
  have hyl : ys.length = 4 := hys.1
  have hys3 : RowsAre (hideAll b2 [wl]) ys (castW (wst 0).1) := by
    refine ⟨hys.1, fun i r e => ?_⟩
    obtain ⟨a, vs, g1, ⟨n, g2⟩, g3⟩ := hys.2 i r e
    refine ⟨a, vs, g1, ⟨n, hideAll_get _ g2 fun q => ?_⟩, g3⟩
    have q := List.mem_singleton.mp q
    subst q
    rw [eL] at g2
    have e1 : ys.toArray = vs.toArray := by injection g2 with g2; injection g2 with _ _ g2; injection g2
    have e2 : ys.length = vs.length := by rw [← List.size_toArray, e1, List.size_toArray]
    have e3 := g3.length
    have hm := List.mem_of_getElem? e
    have : r.length = 1 := by
      obtain ⟨u, _, rfl⟩ := List.mem_map.mp (show r ∈ ((List.range 4).map fun u => [u]).map castL from hm)
      rename_i hu
      obtain ⟨v, _, rfl⟩ := List.mem_map.mp hu
      rfl
    omega
  have U := U.kp kh
  have hC := hC.kp (cm' := cm) kh rfl
  have hR := hR.kp (cm' := cm) kh rfl
  have S := S.thawW (fun n c e => e) eL (P := isL ys) ⟨nL, rfl⟩
  generalize hideAll b2 [wl] = b3 at *
  clear hys hJ eL hn hwl hbn kb
  refine wpAny_execs_cons (wpAny_While (whileW S (fun k b m cm own => ∃ i wrefs ms, k + i = 24 ∧ own = [(wl, isL wrefs), (ml, isL ms)] ∧ RowsAre b wrefs (castW (wst i).1) ∧ IntsAre ms ((wst i).2.map (meanF (cAt cr))) ∧ FC b cm cr ∧ FR b cm rows ∧ m (Str.ofString "ways") = some (.ref wl) ∧ m (Str.ofString "means") = some (.ref ml)) 24
    ⟨0, ys, [], rfl, rfl, hys3, .nil, hC, hR, rfl, rfl⟩ ?_))
  clear S hC hR hys3
  rintro k b₁ m₁ cm₁ own₁ h₁ t₁ Q' Z' E' kb hJJ S hQ hZ
  obtain ⟨i, wrefs, ms, hki, rfl, hW, hM, hC, hR, mw, mm⟩ := hJJ
  obtain ⟨oW, hoW, hPW⟩ := S.at (i := 0) rfl
  have hl1 := wst_len1 i (by first | assumption | exact Nat.le_trans (by assumption) (by decide) | exact Nat.lt_of_lt_of_le (by assumption) (by decide) | exact Int.natCast_nonneg _ | exact Int.ofNat_lt.mpr (lt4 (by assumption)) | exact dep (by assumption) (by decide) | omega)
  have hl2 := wst_len2 i (by first | assumption | exact Nat.le_trans (by assumption) (by decide) | exact Nat.lt_of_lt_of_le (by assumption) (by decide) | exact Int.natCast_nonneg _ | exact Int.ofNat_lt.mpr (lt4 (by assumption)) | exact dep (by assumption) (by decide) | omega)
  have hwl : wrefs.length = (wst i).1.length := by rw [hW.1]; unfold castW; rw [List.length_map]
  have hml := hM.length
  rw [List.length_map] at hml
  refine isTrue_plain (r_nm S rfl mw (r_truthL (isL_list hoW hPW) (by first | assumption | exact Nat.le_trans (by assumption) (by decide) | exact Nat.lt_of_lt_of_le (by assumption) (by decide) | exact Int.natCast_nonneg _ | exact Int.ofNat_lt.mpr (lt4 (by assumption)) | exact dep (by assumption) (by decide) | omega) fun t => ?_))
  by_cases h24 : i < 24
  · have hp := wst_pos i h24
    rw [if_pos (by rw [decide_eq_true_eq]; omega)]
    obtain ⟨way, hlast, hok, hw1, hw2⟩ := wst_ok i h24
    have hsp := last_split hlast
    have hst := wst_step hlast
    have hW' : RowsAre b₁ wrefs (castW (wst i).1.dropLast ++ [castL way]) := by
      have : castW (wst i).1 = castW (wst i).1.dropLast ++ [castL way] := by
        conv => lhs; rw [hsp]
        unfold castW; rw [List.map_append]; rfl
      rw [← this]; exact hW
    refine wayW (U.kp kb) S mw mm hW' hok (by rw [List.length_dropLast]; omega) hw2 (by first | assumption | exact Nat.le_trans (by assumption) (by decide) | exact Nat.lt_of_lt_of_le (by assumption) (by decide) | exact Int.natCast_nonneg _ | exact Int.ofNat_lt.mpr (lt4 (by assumption)) | exact dep (by assumption) (by decide) | omega) hC hG hh hr hun fun b' cm' wrefs' u h' t' k' S' hW2 c1 c2 => ?_
    refine hQ (k - 1) b' _ _ _ _ _ (by first | assumption | exact Nat.le_trans (by assumption) (by decide) | exact Nat.lt_of_lt_of_le (by assumption) (by decide) | exact Int.natCast_nonneg _ | exact Int.ofNat_lt.mpr (lt4 (by assumption)) | exact dep (by assumption) (by decide) | omega) k' S' ⟨i + 1, wrefs', _, by omega, rfl, ?_, ?_, hC.kp k' c1, hR.kp k' c2, mw, mm⟩
    · rw [hst]; exact hW2
    · rw [hst, List.map_append]; exact ints_snoc hM
  · have hi : i = 24 := by omega
    subst hi
    have h0 : (wst 24).1.length = 0 := by rw [wst_end]; rfl
    rw [if_neg (by rw [decide_eq_true_eq]; omega)]
    obtain ⟨b4, kb4, S', o, ho, n, rfl⟩ := S.drop1.freeze
    exact hZ _ (q _ _ _ _ _ ((kh.trans kb).trans kb4) S' (hR.kp kb4 rfl) ⟨ml, ms, mm, ⟨n, ho⟩, hM⟩)
end Mine

open PySem PySem.W PyProof.Rows PySem.Calls
set_option Elab.async false
set_option linter.unusedVariables false
set_option maxRecDepth 100000
namespace Mine
variable {prog : Program} {w : World} {A : Around} {E : Value → Shared → Prop} {mg mb : Str → Option Value}
variable {b h : Heap} {env : Env} {wc : List (Str × Addr)} {m cm : Str → Option Value} {own : Own} {g : Array GenState} {d : Drawn} {t : Nat} {os : OsState}
variable {R : Result → Shared → Prop}

def rAt (c : Nat → Nat → Nat) (k v : Nat) : Option Nat := (rowF c k).getD v none
def shareP (c : Nat → Nat → Nat) (v n : Nat) : List Int := (List.range n).filterMap fun k => (rAt c k v).map fun r => (((((rAt c 4 v).getD 0 : Nat) : Int) - (r : Int)) * 12).fdiv (4 - (k : Int))
def sharesF (c : Nat → Nat → Nat) : List Int := (List.range 4).map fun v => mnL (shareP c v 4)
theorem shareP_succ (c : Nat → Nat → Nat) (v n : Nat) : shareP c v (n + 1) = shareP c v n ++ (match rAt c n v with | none => [] | some r => [(((((rAt c 4 v).getD 0 : Nat) : Int) - (r : Int)) * 12).fdiv (4 - (n : Int))]) := by
  unfold shareP
  rw [List.range_succ, List.filterMap_append]
  congr 1
  cases h : rAt c n v <;> simp [h]
theorem rAt_get {c : Nat → Nat → Nat} (hc : ∀ u v, u < 4 → v < 4 → c u v ≤ 10) {k v : Nat} (hv : v < 4) : (rowF c k)[v]? = some (rAt c k v) := by
  have h1 := (rowF_good hc k).1
  unfold rAt
  rw [List.getD_eq_getElem?_getD, List.getElem?_eq_getElem (by first | assumption | exact Nat.le_trans (by assumption) (by decide) | exact Nat.lt_of_lt_of_le (by assumption) (by decide) | exact Int.natCast_nonneg _ | exact Int.ofNat_lt.mpr (lt4 (by assumption)) | exact dep (by assumption) (by decide) | omega)]; rfl
theorem rAt_le {c : Nat → Nat → Nat} (hc : ∀ u v, u < 4 → v < 4 → c u v ≤ 10) {k v r : Nat} (hv : v < 4) (h : rAt c k v = some r) : r ≤ 10 * k := by
  have := rAt_get hc (k := k) hv
  rw [h] at this
  exact (rowF_good hc k).2.2 r (List.mem_of_getElem? this)
theorem rAt_succ {c : Nat → Nat → Nat} {k v : Nat} (hv : v < 4) : rAt c (k + 1) v = some (toldF (aheadF c (rowF c k) v)) := by
  unfold rAt
  simp only [rowF]
  rw [List.getD_eq_getElem?_getD, List.getElem?_map, List.getElem?_range hv]; rfl
theorem shareP_pos {c : Nat → Nat → Nat} {v : Nat} (hv : v < 4) : 0 < (shareP c v 4).length := by
  rw [shareP_succ, rAt_succ hv]
  simp
set_option maxHeartbeats 8000000 in
theorem segE {L fa : Addr} {cd : Value} {c : Nat → Nat → Nat} {ns : List Int} {Q : Flow → Shared → Prop} (U : Up w mg mb b) (S : St b (lawEnv L fa cd) (lawCells L) m cm [] h) (hR : FR b cm (rowsF c)) (hM : FM b m ns) (hns : 0 < ns.length) (hc : ∀ u v, u < 4 → v < 4 → c u v ≤ 10)
    (hh : A.handled = none) (hr : A.depth + 100 < recursionLimit) (hun : A.units + 70 < cLine)
    (q : ∀ b' m' cm' own' h' t', Kp b b' → St b' (lawEnv L fa cd) (lawCells L) m' cm' own' h' → Q (.ret (.bool (mxL (sharesF c) == mxL ns))) ⟨h', g, d, t', os⟩) :
    wpAny (model prog w) A (execs (lawBody.drop 14) (lawEnv L fa cd)) Q E ⟨h, g, d, t, os⟩ := by
  refine wpAny_execs_cons (wpAny_Assign_Name (r_list0 (r_newL S (by simp) fun sl h₁ S hsl => r_st S rfl fun h₁ t₁ S => ?_)))
  refine wpAny_execs_cons (wpAny_For (r_t1 U S rfl rfl Boot.range (r_int fun k1 t => r_range1 (n := 4) S rfl (by decide) fun Iv h₁ t₁ S hIv => ?_)))
  refine loopW (Walks.range (by exact hh) Iv 0 1 4) (fun a ha q => absurd (List.mem_singleton.mp ha) q) (fun i h q => rangeI q) S hIv
    (fun i b₁ m₁ cm₁ own₁ => ∃ ss, own₁ = [(sl, isL ss)] ∧ IntsAre ss ((sharesF c).take i) ∧ FR b₁ cm₁ (rowsF c) ∧ FM b₁ m₁ ns ∧ m₁ (Str.ofString "shares") = some (.ref sl))
    ⟨[], rfl, .nil, hR, hM, rfl⟩ ?_ ?_
  · clear S hR hM
    rintro v vv b₁ m₁ cm₁ own₁ h₁ t₁ oIv Q' E' hv ⟨tv, rfl⟩ kb1 hJJ S hQ
    obtain ⟨ss, rfl, hS, hR, hM, msh⟩ := hJJ
    have ev : (0 : Int) + (v : Int) * 1 = v := ei0 _
    rw [ev]
    have U := U.kp kb1
    obtain ⟨rl, refs, crl, hrl, hro⟩ := id hR
    have ssl := hS.length
    rw [List.length_take] at ssl
    refine r_asc S rfl rfl rfl fun h₁ S => ?_
    refine wpAny_execs_cons (r_append (fun Q1 h1 => r_nm S rfl msh (h1 sl _ _ _ _ _ _ 1 ss S rfl (by first | assumption | exact Nat.le_trans (by assumption) (by decide) | exact Nat.lt_of_lt_of_le (by assumption) (by decide) | exact Int.natCast_nonneg _ | exact Int.ofNat_lt.mpr (lt4 (by assumption)) | exact dep (by assumption) (by decide) | omega) fun Q2 h2 => ?_)) rfl ⟨_, rfl⟩ rfl rfl)
    refine r_b1 U S rfl rfl Boot.min (r_lc rfl rfl rfl (r_t1 U S rfl rfl Boot.range (r_int fun k1 t => r_range1 (n := 4) S rfl (by decide) fun I h₁ t₁ S hIt => ?_)))
    refine compW (Walks.range (by exact hh) I 0 1 4) (fun a ha => (List.mem_singleton.mp ha) ▸ rangeI hIt) (fun i h q => rangeI q) S hIt (ClOk.all ⟨rfl, rfl, trivial⟩) rfl rfl rfl (by rw [sizeLine_eq]; decide)
      (fun _ i _ ys => IntsAre ys (shareP c v i)) (fun _ _ _ => .nil) ?_ ?_
    · rintro k vv bc C D b₂ m₂ ys h₂ t₂ oI E' Q' Z' hk ⟨k2, rfl⟩ kb Sb kb₁ hJ hx S hQ hZ
      have ek : (0 : Int) + (k : Int) * 1 = k := ei0 _
      rw [ek] at hx
      obtain ⟨pk, pv, g1, g2, g3⟩ := hro.2 k (rowF c k) (by unfold rowsF; rw [List.getElem?_map, List.getElem?_range (by first | assumption | exact Nat.le_trans (by assumption) (by decide) | exact Nat.lt_of_lt_of_le (by assumption) (by decide) | exact Int.natCast_nonneg _ | exact Int.ofNat_lt.mpr (lt4 (by assumption)) | exact dep (by assumption) (by decide) | omega)]; rfl)
      obtain ⟨p4, pv4, f1, f2, f3⟩ := hro.2 4 (rowF c 4) (by unfold rowsF; rw [List.getElem?_map, List.getElem?_range (by first | assumption | exact Nat.le_trans (by assumption) (by decide) | exact Nat.lt_of_lt_of_le (by assumption) (by decide) | exact Int.natCast_nonneg _ | exact Int.ofNat_lt.mpr (lt4 (by assumption)) | exact dep (by assumption) (by decide) | omega)]; rfl)
      obtain ⟨vk, hvk, hok⟩ := g3.2 v _ (rAt_get hc hv)
      obtain ⟨v4, hv4, hok4⟩ := f3.2 v _ (rAt_get hc hv)
      have hlR := plain_kp (kb.trans kb₁) hrl
      have hlK := plain_kp (kb.trans kb₁) g2
      have hl4 := plain_kp (kb.trans kb₁) f2
      refine wpAny_tests_one (wpAny_isTrue_Compare1 (Subscript_ (Subscript_ (r_nmc S rfl rfl crl (r_nm S rfl hx (r_ix (list_kp hlR.isList S.keep) (lt4 hk) g1 (r_nmc S rfl rfl rfl (r_ix (list_kp hlK.isList S.keep) (lt4 hv) hvk (r_none ?_)))))))))
      have esucc := shareP_succ c v k
      cases hp : rAt c k v with
      | none =>
        rw [hp] at hok esucc
        have hok : vk = .none := hok
        subst hok
        refine wpAny_isNot_self rfl (wpAny_truthy_bool ?_)
        rw [if_neg (by decide)]
        refine (hZ _ _ _ _ (Kp.refl _) S ?_)
        rw [esucc, List.append_nil]
        exact hJ
      | some r =>
        have hrb := rAt_le hc hv hp
        rw [hp] at hok esucc
        obtain ⟨k3, rfl⟩ := hok
        have e4 := rAt_succ (c := c) (k := 3) hv
        have h4b := rAt_le hc hv e4
        rw [e4] at hok4 esucc
        generalize toldF (aheadF c (rowF c 3) v) = r4 at *
        obtain ⟨k4, rfl⟩ := hok4
        refine isnot_int_none (wpAny_truthy_bool ?_)
        rw [if_pos rfl]
        refine wpAny_BinOp (wpAny_BinOp (wpAny_BinOp (Subscript_ (Subscript_ (r_nmc S rfl rfl crl (r_int fun k5 t => r_subL (list_kp hlR.isList S.keep) (by first | assumption | exact Nat.le_trans (by assumption) (by decide) | exact Nat.lt_of_lt_of_le (by assumption) (by decide) | exact Int.natCast_nonneg _ | exact Int.ofNat_lt.mpr (lt4 (by assumption)) | exact dep (by assumption) (by decide) | omega) (by first | assumption | exact Nat.le_trans (by assumption) (by decide) | exact Nat.lt_of_lt_of_le (by assumption) (by decide) | exact Int.natCast_nonneg _ | exact Int.ofNat_lt.mpr (lt4 (by assumption)) | exact dep (by assumption) (by decide) | omega) (toA f1) (r_nmc S rfl rfl rfl (r_ix (list_kp hl4.isList S.keep) (lt4 hv) hv4 ?_))))))))
        refine Subscript_ (Subscript_ (r_nmc S rfl rfl crl (r_nm S rfl hx (r_ix (list_kp hlR.isList S.keep) (lt4 hk) g1 (r_nmc S rfl rfl rfl (r_ix (list_kp hlK.isList S.keep) (lt4 hv) hvk ?_))))))
        refine r_sub fun k6 t => r_int fun k7 t => r_mul (by first | assumption | exact Nat.le_trans (by assumption) (by decide) | exact Nat.lt_of_lt_of_le (by assumption) (by decide) | exact Int.natCast_nonneg _ | exact Int.ofNat_lt.mpr (lt4 (by assumption)) | exact dep (by assumption) (by decide) | omega) (by first | assumption | exact Nat.le_trans (by assumption) (by decide) | exact Nat.lt_of_lt_of_le (by assumption) (by decide) | exact Int.natCast_nonneg _ | exact Int.ofNat_lt.mpr (lt4 (by assumption)) | exact dep (by assumption) (by decide) | omega) fun k8 t => wpAny_BinOp (r_int fun k9 t => r_nm S rfl hx (r_sub fun k10 t => r_fdiv (by first | assumption | exact Nat.le_trans (by assumption) (by decide) | exact Nat.lt_of_lt_of_le (by assumption) (by decide) | exact Int.natCast_nonneg _ | exact Int.ofNat_lt.mpr (lt4 (by assumption)) | exact dep (by assumption) (by decide) | omega) (by first | assumption | exact Nat.le_trans (by assumption) (by decide) | exact Nat.lt_of_lt_of_le (by assumption) (by decide) | exact Int.natCast_nonneg _ | exact Int.ofNat_lt.mpr (lt4 (by assumption)) | exact dep (by assumption) (by decide) | omega) fun k11 t => (hQ _ _ _ _ _ (Kp.refl _) S ?_)))
        rw [esucc]
        exact ints_snoc hJ
    · intro bc b₂ b2 C D ys h' t' hJ kb kb2 hn hD hL S
      refine post_none S fun h' S => ?_
      refine r_minL (by exact hh) S (list_kp hL.isList S.keep) hJ (shareP_pos hv) fun k5 h₂ t₂ S => (h2 _ _ _ _ _ _ _ 1 ss S rfl (by first | assumption | exact Nat.le_trans (by assumption) (by decide) | exact Nat.lt_of_lt_of_le (by assumption) (by decide) | exact Int.natCast_nonneg _ | exact Int.ofNat_lt.mpr (lt4 (by assumption)) | exact dep (by assumption) (by decide) | omega) fun h₃ S3 => ?_)
      obtain ⟨ml, ms, mm, hml, hmi⟩ := hM
      refine wpAny_execs_nil (hQ _ _ _ _ _ _ kb2 S3 ⟨_, rfl, ?_, hR.kp kb2 rfl, ⟨ml, ms, mm, plain_kp kb2 hml, hmi⟩, msh⟩)
      rw [take_snoc (x := mnL (shareP c v 4)) (by unfold sharesF; rw [List.getElem?_map, List.getElem?_range hv]; rfl)]
      exact ints_snoc hS
  · clear S hR hM
    rintro b₁ m₁ cm₁ own₁ h₁ t₁ kb1 ⟨ss, rfl, hS, hR, hM, msh⟩ S
    have U := U.kp kb1
    have e : (sharesF c).take 4 = sharesF c := List.take_of_length_le (by unfold sharesF; rw [List.length_map, List.length_range]; exact Nat.le_refl _)
    rw [e] at hS
    obtain ⟨ml, ms, mm, hml, hmi⟩ := hM
    obtain ⟨oS, hoS, hPS⟩ := S.at (i := 0) rfl
    refine wpAny_execs_cons (wpAny_Return_some (wpAny_Compare1 (r_b1 U S rfl rfl Boot.max (r_nm S rfl msh (r_maxL (by exact hh) S (isL_list hoS hPS) hS (by unfold sharesF; rw [List.length_map, List.length_range]; decide) fun k5 h₂ t₂ S => r_b1 U S rfl rfl Boot.max (r_nm S rfl mm (r_maxL (by exact hh) S (list_kp hml.isList S.keep) hmi hns fun k6 h₂ t₂ S => eq_int ?_)))))))
    exact q _ _ _ _ _ _ kb1 S
end Mine

open PySem PySem.W PyProof.Rows PySem.Calls
set_option Elab.async false
set_option linter.unusedVariables false
set_option maxRecDepth 100000
namespace Mine

/-- the best walk of k + 1 steps from 0 -/
def EE (w : Nat → Nat → Int) : Nat → Nat → Int
  | 0, x => w 0 x
  | k + 1, x => max (max (max (EE w k 0 + w 0 x) (EE w k 1 + w 1 x)) (EE w k 2 + w 2 x)) (EE w k 3 + w 3 x)
theorem max_or (a b : Int) : max a b = a ∨ max a b = b := by
  rcases Int.le_total a b with h | h
  · exact .inr (Int.max_eq_right h)
  · exact .inl (Int.max_eq_left h)
theorem EE_ge (w : Nat → Nat → Int) (k x u : Nat) (hu : u < 4) : EE w k u + w u x ≤ EE w (k + 1) x := by
  match u, hu with
  | 0, _ => exact Int.le_trans (Int.le_trans (Int.le_max_left _ _) (Int.le_max_left _ _)) (Int.le_max_left _ _)
  | 1, _ => exact Int.le_trans (Int.le_trans (Int.le_max_right _ _) (Int.le_max_left _ _)) (Int.le_max_left _ _)
  | 2, _ => exact Int.le_trans (Int.le_max_right _ _) (Int.le_max_left _ _)
  | 3, _ => exact Int.le_max_right _ _
theorem EE_at (w : Nat → Nat → Int) (k x : Nat) : ∃ u, u < 4 ∧ EE w (k + 1) x = EE w k u + w u x := by
  rcases max_or (max (max (EE w k 0 + w 0 x) (EE w k 1 + w 1 x)) (EE w k 2 + w 2 x)) (EE w k 3 + w 3 x) with h | h
  · rcases max_or (max (EE w k 0 + w 0 x) (EE w k 1 + w 1 x)) (EE w k 2 + w 2 x) with h2 | h2
    · rcases max_or (EE w k 0 + w 0 x) (EE w k 1 + w 1 x) with h3 | h3
      · exact ⟨0, by decide, h.trans (h2.trans h3)⟩
      · exact ⟨1, by decide, h.trans (h2.trans h3)⟩
    · exact ⟨2, by decide, h.trans h2⟩
  · exact ⟨3, by decide, h⟩
structure NoPos (w : Nat → Nat → Int) : Prop where
  c1 : ∀ u, u < 4 → w u u ≤ 0
  c2 : ∀ u v, u < 4 → v < 4 → w u v + w v u ≤ 0
  c3 : ∀ u v x, u < 4 → v < 4 → x < 4 → w u v + w v x + w x u ≤ 0
  c4 : ∀ u v x y, u < 4 → v < 4 → x < 4 → y < 4 → w u v + w v x + w x y + w y u ≤ 0
theorem pigeon {a b e v : Nat} (ha : a < 4) (hb : b < 4) (he : e < 4) (hv : v < 4) : 0 = a ∨ a = b ∨ b = e ∨ e = v ∨ 0 = b ∨ a = e ∨ b = v ∨ 0 = e ∨ a = v ∨ 0 = v := by
  have : ∀ a ∈ List.range 4, ∀ b ∈ List.range 4, ∀ e ∈ List.range 4, ∀ v ∈ List.range 4, 0 = a ∨ a = b ∨ b = e ∨ e = v ∨ 0 = b ∨ a = e ∨ b = v ∨ 0 = e ∨ a = v ∨ 0 = v := by decide +kernel
  exact this a (List.mem_range.mpr ha) b (List.mem_range.mpr hb) e (List.mem_range.mpr he) v (List.mem_range.mpr hv)
theorem ar1 {x a b : Int} (h : x = a + b) (hb : b ≤ 0) : x ≤ a := by omega
theorem ar2 {x a b c : Int} (h : x = a + b + c) (hb : b + c ≤ 0) : x ≤ a := by omega
theorem ar3 {x a b c d : Int} (h : x = a + b + c + d) (hb : b + c + d ≤ 0) : x ≤ a := by omega
theorem ar0 {x a b : Int} (h : x = a + b) (ha : a ≤ 0) : x ≤ b := by omega
theorem up {w : Nat → Nat → Int} {k j u x : Nat} (hu : u < 4) (h : EE w (k + 1) x = EE w k u + w u x) (hl : EE w k u ≤ EE w j u) : EE w (k + 1) x ≤ EE w (j + 1) x := by
  rw [h]; exact Int.le_trans (Int.add_le_add_right hl _) (EE_ge w j x u hu)
theorem walkA {w : Nat → Nat → Int} (N : NoPos w) {v : Nat} (hv : v < 4) : EE w 3 v ≤ EE w 2 v ∨ EE w 3 v ≤ EE w 1 v ∨ EE w 3 v ≤ EE w 0 v ∨ (v = 0 ∧ EE w 3 v ≤ 0) := by
  obtain ⟨e, he, h3⟩ : ∃ e, e < 4 ∧ EE w 3 v = EE w 2 e + w e v := EE_at w 2 v
  obtain ⟨b, hb, h2⟩ : ∃ b, b < 4 ∧ EE w 2 e = EE w 1 b + w b e := EE_at w 1 e
  obtain ⟨a, ha, h1⟩ : ∃ a, a < 4 ∧ EE w 1 b = EE w 0 a + w a b := EE_at w 0 b
  rcases pigeon ha hb he hv with q | q | q | q | q | q | q | q | q | q
  · subst q; exact .inl (up he h3 (up hb h2 (ar0 (b := EE w 0 b) h1 (N.c1 0 ha))))
  · subst q; exact .inl (up he h3 (up hb h2 (ar1 h1 (N.c1 _ ha))))
  · subst q; exact .inl (up he h3 (ar1 h2 (N.c1 _ hb)))
  · subst q; exact .inl (ar1 h3 (N.c1 _ he))
  · subst q; exact .inr (.inl (up he h3 (ar0 (b := EE w 0 e) h2 (h1 ▸ N.c2 0 a hb ha))))
  · subst q; exact .inr (.inl (up he h3 (ar2 (h2.trans (congrArg (· + w b a) h1)) (N.c2 a b ha hb))))
  · subst q; exact .inr (.inl (ar2 (h3.trans (congrArg (· + w e b) h2)) (N.c2 b e hb he)))
  · subst q; exact .inr (.inr (.inl (ar0 (b := EE w 0 v) h3 ((h2.trans (congrArg (· + w b 0) h1)) ▸ N.c3 0 a b he ha hb))))
  · subst q; exact .inr (.inr (.inl (ar3 (h3.trans (congrArg (· + w e a) (h2.trans (congrArg (· + w b e) h1)))) (N.c3 a b e ha hb he))))
  · subst q; exact .inr (.inr (.inr ⟨rfl, (h3.trans (congrArg (· + w e 0) (h2.trans (congrArg (· + w b e) h1)))) ▸ N.c4 0 a b e hv ha hb he⟩))

def pot (w : Nat → Nat → Int) (x : Nat) : Int := if x = 0 then max 0 (max (max (EE w 0 x) (EE w 1 x)) (EE w 2 x)) else max (max (EE w 0 x) (EE w 1 x)) (EE w 2 x)
def Att (w : Nat → Nat → Int) (k x : Nat) (t : Int) : Prop := (k = 0 ∧ x = 0 ∧ t = 0) ∨ ∃ j, k = j + 1 ∧ t = EE w j x
theorem pot3_ge (w : Nat → Nat → Int) (x j : Nat) (hj : j ≤ 2) : EE w j x ≤ max (max (EE w 0 x) (EE w 1 x)) (EE w 2 x) := by
  match j, hj with
  | 0, _ => exact Int.le_trans (Int.le_max_left _ _) (Int.le_max_left _ _)
  | 1, _ => exact Int.le_trans (Int.le_max_right _ _) (Int.le_max_left _ _)
  | 2, _ => exact Int.le_max_right _ _
theorem pot3_at (w : Nat → Nat → Int) (x : Nat) : ∃ j, j ≤ 2 ∧ max (max (EE w 0 x) (EE w 1 x)) (EE w 2 x) = EE w j x := by
  rcases max_or (max (EE w 0 x) (EE w 1 x)) (EE w 2 x) with h | h
  · rcases max_or (EE w 0 x) (EE w 1 x) with h2 | h2
    · exact ⟨0, by decide, h.trans h2⟩
    · exact ⟨1, by decide, h.trans h2⟩
  · exact ⟨2, by decide, h⟩
theorem pot_ge (w : Nat → Nat → Int) (x j : Nat) (hj : j ≤ 2) : EE w j x ≤ pot w x := by
  unfold pot
  split
  · exact Int.le_trans (pot3_ge w x j hj) (Int.le_max_right _ _)
  · exact pot3_ge w x j hj
theorem pot_zero (w : Nat → Nat → Int) : 0 ≤ pot w 0 := by unfold pot; rw [if_pos rfl]; exact Int.le_max_left _ _
theorem pot_at (w : Nat → Nat → Int) (x : Nat) : ∃ k, k ≤ 3 ∧ Att w k x (pot w x) := by
  obtain ⟨j, hj, e⟩ := pot3_at w x
  have g : pot w x = EE w j x → ∃ k, k ≤ 3 ∧ Att w k x (pot w x) := fun e => ⟨j + 1, Nat.succ_le_succ hj, .inr ⟨j, rfl, e⟩⟩
  by_cases hx : x = 0
  · subst hx
    have e0 : pot w 0 = max 0 (max (max (EE w 0 0) (EE w 1 0)) (EE w 2 0)) := by unfold pot; rw [if_pos rfl]
    rcases max_or 0 (max (max (EE w 0 0) (EE w 1 0)) (EE w 2 0)) with h | h
    · exact ⟨0, by decide, .inl ⟨rfl, rfl, e0.trans h⟩⟩
    · exact g (e0.trans (h.trans e))
  · exact g ((by unfold pot; rw [if_neg hx] : pot w x = max (max (EE w 0 x) (EE w 1 x)) (EE w 2 x)).trans e)
theorem att_step {w : Nat → Nat → Int} {k u : Nat} {t : Int} (hu : u < 4) (h : Att w k u t) (x : Nat) : t + w u x ≤ EE w k x := by
  rcases h with ⟨rfl, rfl, rfl⟩ | ⟨j, rfl, rfl⟩
  · show 0 + w 0 x ≤ w 0 x; omega
  · exact EE_ge w j x u hu
theorem pot_edge {w : Nat → Nat → Int} (N : NoPos w) {u x : Nat} (hu : u < 4) (hx : x < 4) : pot w u + w u x ≤ pot w x := by
  obtain ⟨k, hk, h⟩ := pot_at w u
  refine Int.le_trans (att_step hu h x) ?_
  match k, hk with
  | 0, _ => exact pot_ge w x 0 (by decide)
  | 1, _ => exact pot_ge w x 1 (by decide)
  | 2, _ => exact pot_ge w x 2 (by decide)
  | 3, _ =>
    rcases walkA N hx with g | g | g | ⟨q, g⟩
    · exact Int.le_trans g (pot_ge w x 2 (by decide))
    · exact Int.le_trans g (pot_ge w x 1 (by decide))
    · exact Int.le_trans g (pot_ge w x 0 (by decide))
    · subst q; exact Int.le_trans g (pot_zero w)
theorem ringB {w : Nat → Nat → Int} (S : Nat → Prop) (h0 : ∃ x, x < 4 ∧ S x) (hs : ∀ x, x < 4 → S x → ∃ x', x' < 4 ∧ S x' ∧ pot w x + w x x' = pot w x') : ∃ v, v < 4 ∧ pot w v ≤ EE w 3 v := by
  have go : ∀ (n k x : Nat), k + n = 3 → x < 4 → S x → Att w k x (pot w x) → ∃ v, v < 4 ∧ pot w v ≤ EE w 3 v := by
    intro n
    induction n with
    | zero =>
      intro k x hk hx hS hA
      obtain ⟨x', hx', hS', e⟩ := hs x hx hS
      have h1 := att_step hx hA x'
      have : k = 3 := by omega
      subst this
      exact ⟨x', hx', by omega⟩
    | succ n ih =>
      intro k x hk hx hS hA
      obtain ⟨x', hx', hS', e⟩ := hs x hx hS
      have h1 := att_step hx hA x'
      have h2 := pot_ge w x' k (by omega)
      exact ih (k + 1) x' (by omega) hx' hS' (.inr ⟨k, rfl, by omega⟩)
  obtain ⟨x, hx, hS⟩ := h0
  obtain ⟨k, hk, hA⟩ := pot_at w x
  exact go (3 - k) k x (by omega) hx hS hA
def ZeroCyc (w : Nat → Nat → Int) : Prop :=
  (∃ u, u < 4 ∧ w u u = 0) ∨ (∃ u v, u < 4 ∧ v < 4 ∧ w v u + w u v = 0) ∨ (∃ u v x, u < 4 ∧ v < 4 ∧ x < 4 ∧ w x u + w u v + w v x = 0) ∨ ∃ u v x y, u < 4 ∧ v < 4 ∧ x < 4 ∧ y < 4 ∧ w y u + w u v + w v x + w x y = 0
theorem ti2 {p q a b : Int} (e1 : p + a ≤ q) (e2 : q + b ≤ p) (h : b + a = 0) : p + a = q ∧ q + b = p := by omega
theorem ti3 {p q r a b c : Int} (e1 : p + a ≤ q) (e2 : q + b ≤ r) (e3 : r + c ≤ p) (h : c + a + b = 0) : p + a = q ∧ q + b = r ∧ r + c = p := by omega
theorem ti4 {p q r s a b c d : Int} (e1 : p + a ≤ q) (e2 : q + b ≤ r) (e3 : r + c ≤ s) (e4 : s + d ≤ p) (h : d + a + b + c = 0) : p + a = q ∧ q + b = r ∧ r + c = s ∧ s + d = p := by omega
theorem walkB {w : Nat → Nat → Int} (N : NoPos w) (Z : ZeroCyc w) : ∃ v, v < 4 ∧ pot w v ≤ EE w 3 v := by
  rcases Z with ⟨u, hu, h⟩ | ⟨u, v, hu, hv, h⟩ | ⟨u, v, x, hu, hv, hx, h⟩ | ⟨u, v, x, y, hu, hv, hx, hy, h⟩
  · refine ringB (fun z => z = u) ⟨u, hu, rfl⟩ ?_
    rintro _ _ rfl
    exact ⟨_, hu, rfl, by rw [h, Int.add_zero]⟩
  · obtain ⟨e1, e2⟩ := ti2 (pot_edge N hu hv) (pot_edge N hv hu) h
    refine ringB (fun z => z = u ∨ z = v) ⟨u, hu, .inl rfl⟩ ?_
    rintro _ _ (rfl | rfl)
    · exact ⟨v, hv, .inr rfl, e1⟩
    · exact ⟨u, hu, .inl rfl, e2⟩
  · obtain ⟨e1, e2, e3⟩ := ti3 (pot_edge N hu hv) (pot_edge N hv hx) (pot_edge N hx hu) h
    refine ringB (fun z => z = u ∨ z = v ∨ z = x) ⟨u, hu, .inl rfl⟩ ?_
    rintro _ _ (rfl | rfl | rfl)
    · exact ⟨v, hv, .inr (.inl rfl), e1⟩
    · exact ⟨x, hx, .inr (.inr rfl), e2⟩
    · exact ⟨u, hu, .inl rfl, e3⟩
  · obtain ⟨e1, e2, e3, e4⟩ := ti4 (pot_edge N hu hv) (pot_edge N hv hx) (pot_edge N hx hy) (pot_edge N hy hu) h
    refine ringB (fun z => z = u ∨ z = v ∨ z = x ∨ z = y) ⟨u, hu, .inl rfl⟩ ?_
    rintro _ _ (rfl | rfl | rfl | rfl)
    · exact ⟨v, hv, .inr (.inl rfl), e1⟩
    · exact ⟨x, hx, .inr (.inr (.inl rfl)), e2⟩
    · exact ⟨y, hy, .inr (.inr (.inr rfl)), e3⟩
    · exact ⟨u, hu, .inl rfl, e4⟩
end Mine

open PySem PySem.W PyProof.Rows PySem.Calls
set_option Elab.async false
set_option linter.unusedVariables false
set_option maxRecDepth 100000
namespace Mine

theorem mxV_ge (f : Nat → Int) : ∀ k i, i ≤ k → f i ≤ mxV f k
  | 0, i, h => by have : i = 0 := by omega
                  subst this; exact Int.le_refl _
  | k + 1, i, h => by
    simp only [mxV]
    by_cases hi : i ≤ k
    · have := mxV_ge f k i hi; omega
    · have : i = k + 1 := by omega
      subst this; omega
theorem mxV_at (f : Nat → Int) : ∀ k, ∃ i, i ≤ k ∧ mxV f k = f i
  | 0 => ⟨0, Nat.le_refl _, rfl⟩
  | k + 1 => by
    obtain ⟨i, hi, e⟩ := mxV_at f k
    simp only [mxV]
    by_cases h : f (k + 1) ≤ mxV f k
    · exact ⟨i, by omega, by omega⟩
    · exact ⟨k + 1, Nat.le_refl _, by omega⟩
theorem mnV_le (f : Nat → Int) : ∀ k i, i ≤ k → mnV f k ≤ f i
  | 0, i, h => by have : i = 0 := by omega
                  subst this; exact Int.le_refl _
  | k + 1, i, h => by
    simp only [mnV]
    by_cases hi : i ≤ k
    · have := mnV_le f k i hi; omega
    · have : i = k + 1 := by omega
      subst this; omega
theorem mnV_at (f : Nat → Int) : ∀ k, ∃ i, i ≤ k ∧ mnV f k = f i
  | 0 => ⟨0, Nat.le_refl _, rfl⟩
  | k + 1 => by
    obtain ⟨i, hi, e⟩ := mnV_at f k
    simp only [mnV]
    by_cases h : mnV f k ≤ f (k + 1)
    · exact ⟨i, by omega, by omega⟩
    · exact ⟨k + 1, Nat.le_refl _, by omega⟩
theorem mxL_ge {l : List Int} {x : Int} (h : x ∈ l) : x ≤ mxL l := by
  obtain ⟨i, hi, rfl⟩ := List.mem_iff_getElem.mp h
  have := mxV_ge (fun i => l.getD i 0) (l.length - 1) i (by omega)
  rwa [show l.getD i 0 = l[i] from by rw [List.getD_eq_getElem?_getD, List.getElem?_eq_getElem hi]; rfl] at this
theorem mxL_mem {l : List Int} (h : 0 < l.length) : mxL l ∈ l := by
  obtain ⟨i, hi, e⟩ := mxV_at (fun i => l.getD i 0) (l.length - 1)
  have hi' : i < l.length := by omega
  have e2 : mxL l = l[i] := e.trans (by rw [List.getD_eq_getElem?_getD, List.getElem?_eq_getElem hi']; rfl)
  rw [e2]; exact List.getElem_mem hi'
theorem mnL_le {l : List Int} {x : Int} (h : x ∈ l) : mnL l ≤ x := by
  obtain ⟨i, hi, rfl⟩ := List.mem_iff_getElem.mp h
  have := mnV_le (fun i => l.getD i 0) (l.length - 1) i (by omega)
  rwa [show l.getD i 0 = l[i] from by rw [List.getD_eq_getElem?_getD, List.getElem?_eq_getElem hi]; rfl] at this
theorem mnL_mem {l : List Int} (h : 0 < l.length) : mnL l ∈ l := by
  obtain ⟨i, hi, e⟩ := mnV_at (fun i => l.getD i 0) (l.length - 1)
  have hi' : i < l.length := by omega
  have e2 : mnL l = l[i] := e.trans (by rw [List.getD_eq_getElem?_getD, List.getElem?_eq_getElem hi']; rfl)
  rw [e2]; exact List.getElem_mem hi'

theorem rings_eq : rings = [[3], [2], [2, 3], [1], [1, 3], [1, 3, 2], [1, 2], [1, 2, 3], [0], [0, 3], [0, 3, 2], [0, 3, 2, 1], [0, 3, 1], [0, 3, 1, 2], [0, 2], [0, 2, 3], [0, 2, 3, 1], [0, 2, 1], [0, 2, 1, 3], [0, 1], [0, 1, 3], [0, 1, 3, 2], [0, 1, 2], [0, 1, 2, 3]] := by decide +kernel
theorem rings_ok : ∀ r ∈ rings, okWay r = true := by decide +kernel
theorem mean1 (c : Nat → Nat → Nat) (u : Nat) : meanF c [u] = 12 * (c u u : Int) := by
  have : meanF c [u] = (((c u u : Int) + 0) * 12).fdiv 1 := rfl
  rw [this, Int.fdiv_eq_ediv_of_nonneg _ (by decide)]; omega
theorem mean2 (c : Nat → Nat → Nat) (u v : Nat) : meanF c [u, v] = 6 * ((c v u : Int) + c u v) := by
  have : meanF c [u, v] = (((c v u : Int) + ((c u v : Int) + 0)) * 12).fdiv 2 := rfl
  rw [this, Int.fdiv_eq_ediv_of_nonneg _ (by decide)]; omega
theorem mean3 (c : Nat → Nat → Nat) (u v x : Nat) : meanF c [u, v, x] = 4 * ((c x u : Int) + c u v + c v x) := by
  have : meanF c [u, v, x] = (((c x u : Int) + ((c u v : Int) + ((c v x : Int) + 0))) * 12).fdiv 3 := rfl
  rw [this, Int.fdiv_eq_ediv_of_nonneg _ (by decide)]; omega
theorem mean4 (c : Nat → Nat → Nat) (u v x y : Nat) : meanF c [u, v, x, y] = 3 * ((c y u : Int) + c u v + c v x + c x y) := by
  have : meanF c [u, v, x, y] = (((c y u : Int) + ((c u v : Int) + ((c v x : Int) + ((c x y : Int) + 0)))) * 12).fdiv 4 := rfl
  rw [this, Int.fdiv_eq_ediv_of_nonneg _ (by decide)]; omega

def wt (c : Nat → Nat → Nat) (u v : Nat) : Int := 12 * (c u v : Int) - mxL (meansF c)
theorem mean_le (c : Nat → Nat → Nat) {r : List Nat} (h : r ∈ rings) : meanF c r ≤ mxL (meansF c) := mxL_ge (List.mem_map_of_mem h)
theorem in_rings {r : List Nat} (h : r ∈ ([[3], [2], [2, 3], [1], [1, 3], [1, 3, 2], [1, 2], [1, 2, 3], [0], [0, 3], [0, 3, 2], [0, 3, 2, 1], [0, 3, 1], [0, 3, 1, 2], [0, 2], [0, 2, 3], [0, 2, 3, 1], [0, 2, 1], [0, 2, 1, 3], [0, 1], [0, 1, 3], [0, 1, 3, 2], [0, 1, 2], [0, 1, 2, 3]] : List (List Nat))) : r ∈ rings := by rw [rings_eq]; exact h
theorem wt1 (c : Nat → Nat → Nat) {u : Nat} (hu : u < 4) : wt c u u ≤ 0 := by
  have h : ∀ u, u < 4 → [u] ∈ rings := by
    intro u hu
    have : u = 0 ∨ u = 1 ∨ u = 2 ∨ u = 3 := by omega
    rcases this with rfl | rfl | rfl | rfl <;> decide +kernel
  have := mean_le c (h u hu)
  rw [mean1] at this
  unfold wt; omega
theorem qa {a b : Int} (h : a + b ≤ 0) : b + a ≤ 0 := by omega
theorem qb {a : Int} (h : a ≤ 0) : a + a ≤ 0 := by omega
theorem qc {a b c : Int} (h : b + c + a ≤ 0) : a + b + c ≤ 0 := by omega
theorem qd {a b c : Int} (h : a ≤ 0) (h' : b + c ≤ 0) : a + b + c ≤ 0 := by omega
theorem qe {a b c d : Int} (h : b + c + d + a ≤ 0) : a + b + c + d ≤ 0 := by omega
theorem qf {a b c d : Int} (h : a ≤ 0) (h' : b + c + d ≤ 0) : a + b + c + d ≤ 0 := by omega
theorem qg {a b c d : Int} (h : a + b ≤ 0) (h' : c + d ≤ 0) : a + b + c + d ≤ 0 := by omega
theorem wt2 (c : Nat → Nat → Nat) {u v : Nat} (hu : u < 4) (hv : v < 4) : wt c u v + wt c v u ≤ 0 := by
  have key : ∀ u v, u < v → v < 4 → wt c u v + wt c v u ≤ 0 := by
    intro u v h1 h2
    have hm : [u, v] ∈ rings := by
      have h : ∀ v ∈ List.range 4, ∀ u ∈ List.range v, [u, v] ∈ rings := by decide +kernel
      exact h v (List.mem_range.mpr h2) u (List.mem_range.mpr h1)
    have := mean_le c hm
    rw [mean2] at this
    unfold wt; omega
  by_cases h : u < v
  · exact key u v h hv
  · by_cases h2 : v < u
    · exact qa (key v u h2 hu)
    · have : u = v := by omega
      subst this
      exact qb (wt1 c hu)
theorem wt3 (c : Nat → Nat → Nat) {u v x : Nat} (hu : u < 4) (hv : v < 4) (hx : x < 4) : wt c u v + wt c v x + wt c x u ≤ 0 := by
  have key : ∀ u v x, u < 4 → v < 4 → x < 4 → u < v → u < x → v ≠ x → wt c u v + wt c v x + wt c x u ≤ 0 := by
    intro u v x h1 h2 h3 h4 h5 h6
    have hm : [u, v, x] ∈ rings := by
      have h : ∀ u ∈ List.range 4, ∀ v ∈ List.range 4, ∀ x ∈ List.range 4, u < v → u < x → v ≠ x → [u, v, x] ∈ rings := by decide +kernel
      exact h u (List.mem_range.mpr h1) v (List.mem_range.mpr h2) x (List.mem_range.mpr h3) h4 h5 h6
    have := mean_le c hm
    rw [mean3] at this
    unfold wt; omega
  by_cases a1 : u = v
  · subst a1; exact qd (wt1 c hu) (wt2 c hu hx)
  by_cases a2 : v = x
  · subst a2; exact qc (qd (wt1 c hv) (wt2 c hv hu))
  by_cases a3 : u = x
  · subst a3; exact qc (qc (qd (wt1 c hu) (wt2 c hu hv)))
  by_cases b1 : u < v ∧ u < x
  · exact key u v x hu hv hx b1.1 b1.2 a2
  by_cases b2 : v < x ∧ v < u
  · exact qc (key v x u hv hx hu b2.1 b2.2 (fun e => a3 e.symm))
  · exact qc (qc (key x u v hx hu hv (by omega) (by omega) a1))
theorem wt4 (c : Nat → Nat → Nat) {u v x y : Nat} (hu : u < 4) (hv : v < 4) (hx : x < 4) (hy : y < 4) : wt c u v + wt c v x + wt c x y + wt c y u ≤ 0 := by
  have key : ∀ v x y, v < 4 → x < 4 → y < 4 → 0 ≠ v → 0 ≠ x → 0 ≠ y → v ≠ x → v ≠ y → x ≠ y → wt c 0 v + wt c v x + wt c x y + wt c y 0 ≤ 0 := by
    intro v x y h1 h2 h3 h4 h5 h6 h7 h8 h9
    have hm : [0, v, x, y] ∈ rings := by
      have h : ∀ v ∈ List.range 4, ∀ x ∈ List.range 4, ∀ y ∈ List.range 4, 0 ≠ v → 0 ≠ x → 0 ≠ y → v ≠ x → v ≠ y → x ≠ y → [0, v, x, y] ∈ rings := by decide +kernel
      exact h v (List.mem_range.mpr h1) x (List.mem_range.mpr h2) y (List.mem_range.mpr h3) h4 h5 h6 h7 h8 h9
    have := mean_le c hm
    rw [mean4] at this
    unfold wt; omega
  by_cases a1 : u = v
  · subst a1; exact qf (wt1 c hu) (wt3 c hu hx hy)
  by_cases a2 : v = x
  · subst a2; exact qe (qf (wt1 c hv) (wt3 c hv hy hu))
  by_cases a3 : x = y
  · subst a3; exact qe (qe (qf (wt1 c hx) (wt3 c hx hu hv)))
  by_cases a4 : u = y
  · subst a4; exact qe (qe (qe (qf (wt1 c hu) (wt3 c hu hv hx))))
  by_cases a5 : u = x
  · subst a5; exact qg (wt2 c hu hv) (wt2 c hu hy)
  by_cases a6 : v = y
  · subst a6; exact qe (qg (wt2 c hv hx) (wt2 c hv hu))
  have hz : 0 = u ∨ 0 = v ∨ 0 = x ∨ 0 = y := by omega
  rcases hz with rfl | rfl | rfl | rfl
  · exact key v x y hv hx hy a1 a5 a4 a2 a6 a3
  · exact qe (key x y u hx hy hu a2 a6 (fun e => a1 e.symm) a3 (fun e => a5 e.symm) (fun e => a4 e.symm))
  · exact qe (qe (key y u v hy hu hv a3 (fun e => a5 e.symm) (fun e => a2 e.symm) (fun e => a4 e.symm) (fun e => a6 e.symm) a1))
  · exact qe (qe (qe (key u v x hu hv hx (fun e => a4 e.symm) (fun e => a6 e.symm) (fun e => a3 e.symm) a1 a5 a2)))
theorem wt_nopos (c : Nat → Nat → Nat) : NoPos (wt c) := ⟨fun u hu => wt1 c hu, fun u v hu hv => wt2 c hu hv, fun u v x hu hv hx => wt3 c hu hv hx, fun u v x y hu hv hx hy => wt4 c hu hv hx hy⟩
theorem wt_zero (c : Nat → Nat → Nat) : ZeroCyc (wt c) := by
  have hm : mxL (meansF c) ∈ meansF c := mxL_mem (by unfold meansF; rw [rings_eq]; simp)
  obtain ⟨r, hr, e⟩ := List.mem_map.mp hm
  have ok := okWay_get (rings_ok r hr)
  match r, ok with
  | [], ⟨h, _⟩ => simp at h
  | [u], ⟨_, _, h⟩ =>
    rw [mean1] at e
    exact .inl ⟨u, h 0 (Nat.le_of_ble_eq_true rfl), by unfold wt; omega⟩
  | [u, v], ⟨_, _, h⟩ =>
    rw [mean2] at e
    exact .inr (.inl ⟨u, v, h 0 (Nat.le_of_ble_eq_true rfl), h 1 (Nat.le_of_ble_eq_true rfl), by unfold wt; omega⟩)
  | [u, v, x], ⟨_, _, h⟩ =>
    rw [mean3] at e
    exact .inr (.inr (.inl ⟨u, v, x, h 0 (Nat.le_of_ble_eq_true rfl), h 1 (Nat.le_of_ble_eq_true rfl), h 2 (Nat.le_of_ble_eq_true rfl), by unfold wt; omega⟩))
  | [u, v, x, y], ⟨_, _, h⟩ =>
    rw [mean4] at e
    exact .inr (.inr (.inr ⟨u, v, x, y, h 0 (Nat.le_of_ble_eq_true rfl), h 1 (Nat.le_of_ble_eq_true rfl), h 2 (Nat.le_of_ble_eq_true rfl), h 3 (Nat.le_of_ble_eq_true rfl), by unfold wt; omega⟩))
  | _ :: _ :: _ :: _ :: _ :: _, ⟨_, h, _⟩ => simp at h
end Mine

open PySem PySem.W PyProof.Rows PySem.Calls
set_option Elab.async false
set_option linter.unusedVariables false
set_option maxRecDepth 100000
namespace Mine

/-- the dearest row of k + 1 steps, in the text's own numbers -/
def dd (c : Nat → Nat → Nat) : Nat → Nat → Nat
  | 0, v => c 0 v
  | k + 1, v => max (max (max (dd c k 0 + c 0 v) (dd c k 1 + c 1 v)) (dd c k 2 + c 2 v)) (dd c k 3 + c 3 v)
theorem told4 (a b c d : Nat) : toldF [some a, some b, some c, some d] = max (max (max a b) c) d := rfl
theorem told1 (a : Nat) : toldF [some a, none, none, none] = a := rfl
theorem row_dd (c : Nat → Nat → Nat) : ∀ k, rowF c (k + 1) = [some (dd c k 0), some (dd c k 1), some (dd c k 2), some (dd c k 3)]
  | 0 => by
    have : ∀ v, toldF (aheadF c (rowF c 0) v) = c 0 v := fun v => by
      show toldF [some (0 + c 0 v), none, none, none] = _
      rw [told1]; omega
    show [some (toldF (aheadF c (rowF c 0) 0)), some (toldF (aheadF c (rowF c 0) 1)), some (toldF (aheadF c (rowF c 0) 2)), some (toldF (aheadF c (rowF c 0) 3))] = _
    rw [this, this, this, this]; rfl
  | k + 1 => by
    have ih := row_dd c k
    have : ∀ v, toldF (aheadF c (rowF c (k + 1)) v) = dd c (k + 1) v := fun v => by
      rw [ih]
      show toldF [some (dd c k 0 + c 0 v), some (dd c k 1 + c 1 v), some (dd c k 2 + c 2 v), some (dd c k 3 + c 3 v)] = _
      rw [told4]; rfl
    show [some (toldF (aheadF c (rowF c (k + 1)) 0)), some (toldF (aheadF c (rowF c (k + 1)) 1)), some (toldF (aheadF c (rowF c (k + 1)) 2)), some (toldF (aheadF c (rowF c (k + 1)) 3))] = _
    rw [this, this, this, this]
theorem rAt_dd (c : Nat → Nat → Nat) (k : Nat) {v : Nat} (hv : v < 4) : rAt c (k + 1) v = some (dd c k v) := by
  unfold rAt
  rw [row_dd]
  have : v = 0 ∨ v = 1 ∨ v = 2 ∨ v = 3 := by omega
  rcases this with rfl | rfl | rfl | rfl <;> rfl
theorem max12 {a b : Nat} {x y T : Int} (hx : x = 12 * (a : Int) - T) (hy : y = 12 * (b : Int) - T) : max x y = 12 * ((max a b : Nat) : Int) - T := by
  rcases Nat.le_total a b with h | h
  · rw [Nat.max_eq_right h, Int.max_eq_right (by omega)]; exact hy
  · rw [Nat.max_eq_left h, Int.max_eq_left (by omega)]; exact hx
theorem add12 {a c : Nat} {x T L : Int} (hx : x = 12 * (a : Int) - T) : x + (12 * (c : Int) - L) = 12 * ((a + c : Nat) : Int) - (T + L) := by omega
theorem EE_dd (c : Nat → Nat → Nat) {k : Nat} {T : Int} (h : ∀ x, EE (wt c) k x = 12 * (dd c k x : Int) - T) (x : Nat) : EE (wt c) (k + 1) x = 12 * (dd c (k + 1) x : Int) - (T + mxL (meansF c)) :=
  max12 (max12 (max12 (add12 (h 0)) (add12 (h 1))) (add12 (h 2))) (add12 (h 3))
theorem EE0 (c : Nat → Nat → Nat) (x : Nat) : EE (wt c) 0 x = 12 * (dd c 0 x : Int) - mxL (meansF c) := rfl
theorem EE1 (c : Nat → Nat → Nat) (x : Nat) : EE (wt c) 1 x = 12 * (dd c 1 x : Int) - 2 * mxL (meansF c) := by
  have := EE_dd c (EE0 c) x; rw [show EE (wt c) 1 x = EE (wt c) (0 + 1) x from rfl, this, show dd c (0 + 1) x = dd c 1 x from rfl]; omega
theorem EE2 (c : Nat → Nat → Nat) (x : Nat) : EE (wt c) 2 x = 12 * (dd c 2 x : Int) - 3 * mxL (meansF c) := by
  have := EE_dd c (EE1 c) x; rw [show EE (wt c) 2 x = EE (wt c) (1 + 1) x from rfl, this, show dd c (1 + 1) x = dd c 2 x from rfl]; omega
theorem EE3 (c : Nat → Nat → Nat) (x : Nat) : EE (wt c) 3 x = 12 * (dd c 3 x : Int) - 4 * mxL (meansF c) := by
  have := EE_dd c (EE2 c) x; rw [show EE (wt c) 3 x = EE (wt c) (2 + 1) x from rfl, this, show dd c (2 + 1) x = dd c 3 x from rfl]; omega
theorem shareP_eq (c : Nat → Nat → Nat) {v : Nat} (hv : v < 4) : shareP c v 4 = (match rAt c 0 v with | none => [] | some r => [(((dd c 3 v : Int) - (r : Int)) * 12).fdiv 4]) ++
    [(((dd c 3 v : Int) - (dd c 0 v : Int)) * 12).fdiv 3, (((dd c 3 v : Int) - (dd c 1 v : Int)) * 12).fdiv 2, (((dd c 3 v : Int) - (dd c 2 v : Int)) * 12).fdiv 1] := by
  have e0 : shareP c v 0 = [] := rfl
  rw [shareP_succ c v 3, shareP_succ c v 2, shareP_succ c v 1, shareP_succ c v 0, e0, rAt_dd c 3 hv, rAt_dd c 2 hv, rAt_dd c 1 hv, rAt_dd c 0 hv]
  simp only [Option.getD_some, List.nil_append, List.append_assoc, List.cons_append]
  rfl
theorem fdl {x L : Int} {n : Nat} (hn : 0 < n) (h : x ≤ n * L) : x.fdiv n ≤ L := by
  rw [Int.fdiv_eq_ediv_of_nonneg _ (by omega)]
  have := Int.ediv_le_ediv (show (0 : Int) < n by omega) h
  rwa [Int.mul_ediv_cancel_left _ (by omega)] at this
theorem fdg {x L : Int} {n : Nat} (hn : 0 < n) (h : n * L ≤ x) : L ≤ x.fdiv n := by
  rw [Int.fdiv_eq_ediv_of_nonneg _ (by omega)]
  have := Int.ediv_le_ediv (show (0 : Int) < n by omega) h
  rwa [Int.mul_ediv_cancel_left _ (by omega)] at this
theorem sh1 {a b n : Int} {L E F x y : Int} {N : Nat} (hE : E = 12 * a - x) (hF : F = 12 * b - y) (hn : x - y = n * L) (hN : n = N) (h : E ≤ F) : (a - b) * 12 ≤ N * L := by
  rw [← hN]; omega
theorem sh2 {a b n : Int} {L E F x y : Int} {N : Nat} (hE : E = 12 * a - x) (hF : F = 12 * b - y) (hn : x - y = n * L) (hN : n = N) (h : F ≤ E) : N * L ≤ (a - b) * 12 := by
  rw [← hN]; omega
theorem share_le (c : Nat → Nat → Nat) {v : Nat} (hv : v < 4) : mnL (shareP c v 4) ≤ mxL (meansF c) := by
  have e0 := EE0 c v
  have e1 := EE1 c v
  have e2 := EE2 c v
  have e3 := EE3 c v
  have es := shareP_eq c hv
  generalize mxL (meansF c) = L at *
  rcases walkA (wt_nopos c) hv with h | h | h | ⟨rfl, h⟩
  · exact Int.le_trans (mnL_le (x := (((dd c 3 v : Int) - (dd c 2 v : Int)) * 12).fdiv 1) (by rw [es]; simp)) (fdl (n := 1) (by decide) (sh1 (n := 1) e3 e2 (by omega) rfl h))
  · exact Int.le_trans (mnL_le (x := (((dd c 3 v : Int) - (dd c 1 v : Int)) * 12).fdiv 2) (by rw [es]; simp)) (fdl (n := 2) (by decide) (sh1 (n := 2) e3 e1 (by omega) rfl h))
  · exact Int.le_trans (mnL_le (x := (((dd c 3 v : Int) - (dd c 0 v : Int)) * 12).fdiv 3) (by rw [es]; simp)) (fdl (n := 3) (by decide) (sh1 (n := 3) e3 e0 (by omega) rfl h))
  · exact Int.le_trans (mnL_le (x := (((dd c 3 0 : Int) - ((0 : Nat) : Int)) * 12).fdiv 4) (by rw [es]; exact List.mem_append_left _ (List.mem_singleton.mpr rfl))) (fdl (n := 4) (by decide) (sh1 (n := 4) (F := 0) (y := 0) e3 rfl (by omega) rfl h))
theorem share_ge (c : Nat → Nat → Nat) : ∃ v, v < 4 ∧ mxL (meansF c) ≤ mnL (shareP c v 4) := by
  obtain ⟨v, hv, h⟩ := walkB (wt_nopos c) (wt_zero c)
  refine ⟨v, hv, ?_⟩
  have e0 := EE0 c v
  have e1 := EE1 c v
  have e2 := EE2 c v
  have e3 := EE3 c v
  have p0 := Int.le_trans (pot_ge (wt c) v 0 (by decide)) h
  have p1 := Int.le_trans (pot_ge (wt c) v 1 (by decide)) h
  have p2 := Int.le_trans (pot_ge (wt c) v 2 (by decide)) h
  have hm := mnL_mem (shareP_pos (c := c) hv)
  rw [shareP_eq c hv] at hm ⊢
  generalize mxL (meansF c) = L at *
  rcases List.mem_append.mp hm with hm | hm
  · by_cases h0 : v = 0
    · subst h0
      have : rAt c 0 0 = some 0 := rfl
      rw [this] at hm ⊢
      rw [List.mem_singleton.mp hm]
      exact fdg (n := 4) (by decide) (sh2 (n := 4) (F := 0) (y := 0) e3 rfl (by omega) rfl (Int.le_trans (pot_zero (wt c)) h))
    · have : rAt c 0 v = none := by
        have : v = 1 ∨ v = 2 ∨ v = 3 := by omega
        rcases this with rfl | rfl | rfl <;> rfl
      rw [this] at hm; cases hm
  · simp only [List.mem_cons, List.not_mem_nil, or_false] at hm
    rcases hm with hm | hm | hm <;> rw [hm]
    · exact fdg (n := 3) (by decide) (sh2 (n := 3) e3 e0 (by omega) rfl p0)
    · exact fdg (n := 2) (by decide) (sh2 (n := 2) e3 e1 (by omega) rfl p1)
    · exact fdg (n := 1) (by decide) (sh2 (n := 1) e3 e2 (by omega) rfl p2)
/-- Karp -/
theorem karp (c : Nat → Nat → Nat) : mxL (sharesF c) = mxL (meansF c) := by
  apply Int.le_antisymm
  · have hm := mxL_mem (l := sharesF c) (by unfold sharesF; rw [List.length_map, List.length_range]; decide)
    obtain ⟨v, hv, e⟩ := List.mem_map.mp hm
    rw [← e]; exact share_le c (List.mem_range.mp hv)
  · obtain ⟨v, hv, h⟩ := share_ge c
    exact Int.le_trans h (mxL_ge (List.mem_map.mpr ⟨v, List.mem_range.mpr hv, rfl⟩))
end Mine

open PySem PySem.W PyProof.Rows PySem.Calls
set_option Elab.async false
set_option linter.unusedVariables false
set_option maxRecDepth 100000
namespace Mine
variable {prog : Program} {w : World} {A : Around} {E : Value → Shared → Prop} {mg mb : Str → Option Value}
variable {b h : Heap} {env : Env} {wc : List (Str × Addr)} {m cm : Str → Option Value} {own : Own} {g : Array GenState} {d : Drawn} {t : Nat} {os : OsState}
variable {R : Result → Shared → Prop}

theorem leadA_mem {i : Int} (h0 : 0 ≤ i) (h1 : i < 7) : leadA.getD i.toNat ⟨#[]⟩ ∈ leadL := by
  rw [← leadA_eq]
  have hl : i.toNat < leadA.length := by simp [leadA]; omega
  rw [List.getD_eq_getElem?_getD, List.getElem?_eq_getElem hl]
  exact List.getElem_mem hl
theorem headsF_mem {ds : List Int} (hr : ∀ x ∈ ds, 0 ≤ x ∧ x < 49) : ∀ x ∈ headsF ds, x ∈ leadL := by
  intro x hx
  obtain ⟨y, hy, rfl⟩ := List.mem_map.mp hx
  exact leadA_mem (Int.fmod_nonneg_of_pos _ (by decide)) (Int.fmod_lt_of_pos _ (by decide))
theorem tailsF_mem {ds : List Int} (hr : ∀ x ∈ ds, 0 ≤ x ∧ x < 49) : ∀ x ∈ tailsF ds, x ∈ leadL := by
  intro x hx
  obtain ⟨y, hy, rfl⟩ := List.mem_map.mp hx
  have := hr y hy
  have e : y.fdiv 7 = y / 7 := Int.fdiv_eq_ediv_of_nonneg _ (by decide)
  exact leadA_mem (by rw [e]; omega) (by rw [e]; omega)
theorem grid_ok {hs ts : List Str} (hhl : hs.length = 4) (htl : ts.length = 4) (hhm : ∀ x ∈ hs, x ∈ leadL) (htm : ∀ x ∈ ts, x ∈ leadL) : Grid (costRows hs ts) := by
  refine ⟨by unfold costRows; rw [List.length_map]; exact htl, fun u r e => ?_⟩
  obtain ⟨x, hx, rfl⟩ := List.mem_map.mp (List.mem_of_getElem? e)
  refine ⟨by rw [List.length_map]; exact hhl, fun z hz => ?_⟩
  obtain ⟨y, hy, rfl⟩ := List.mem_map.mp hz
  have := tb_cst x (htm x hx) y (hhm y hy)
  exact ⟨this.1, this.2.1⟩

set_option maxHeartbeats 8000000 in
theorem law_ok {ns : List Int} {l L fa : Addr} {cd : Value} {vs : List Value} {Q : Flow → Shared → Prop} (U : Up w mg mb b) (S : St b (lawEnv L fa cd) (lawCells L) m cm [] h) (hm : m (Str.ofString "script") = some (.ref l)) (hl : b.IsList l vs.toArray) (hI : IntsAre vs ns) (hn : ns.length ≤ 63)
    (hh : A.handled = none) (hr : A.depth + 100 < recursionLimit) (hun : A.units + 70 < cLine) (q : ∀ b' m' cm' own' h' t', Kp b b' → St b' (lawEnv L fa cd) (lawCells L) m' cm' own' h' → Q (.ret (.bool true)) ⟨h', g, d, t', os⟩) :
    wpAny (model prog w) A (execs lawBody (lawEnv L fa cd)) Q E ⟨h, g, d, t, os⟩ := by
  have dl := drawsF_len ns
  have dr := drawsF_rng ns
  refine segA1 U S hm hl hI hn hh hr fun b1 m1 cm1 h1 t1 k1 S1 hD => ?_
  generalize drawsF ns = ds at *
  refine segA2 S1 hD dl dr hh hr fun b2 m2 cm2 h2 t2 k2 S2 hH => ?_
  have hhl : (headsF ds).length = 4 := by unfold headsF; rw [List.length_map]; exact dl
  have htl : (tailsF ds).length = 4 := by unfold tailsF; rw [List.length_map]; exact dl
  have hhm := headsF_mem dr
  have htm := tailsF_mem dr
  generalize headsF ds = hs at *
  generalize tailsF ds = ts at *
  have U2 := (U.kp k1).kp k2
  refine segA3 U2 S2 hH hhl htl hhm htm hh hr fun b3 m3 cm3 h3 t3 k3 S3 hH hS => ?_
  have U3 := U2.kp k3
  refine segA4 U3 S3 hH hS hhl htl hhm htm hh hr fun b4 m4 cm4 ca h4 t4 k4 S4 hH hS hF hE cc => ?_
  have U4 := U3.kp k4
  refine segB U4 S4 ⟨hH, hS, hF, hE⟩ cc hhl htl hhm htm hh hr hun fun b5 m5 cm5 h5 t5 k5 S5 hC => ?_
  have U5 := U4.kp k5
  have hG := grid_ok hhl htl hhm htm
  refine segC U5 S5 hC hG hh hr hun fun b6 m6 cm6 h6 t6 k6 S6 hC hR => ?_
  have U6 := U5.kp k6
  refine segD U6 S6 hC hG hR hh hr hun fun b7 m7 cm7 h7 t7 k7 S7 hR hM => ?_
  have U7 := U6.kp k7
  refine segE U7 S7 hR hM (by unfold meansF; rw [rings_eq]; exact Nat.le_of_ble_eq_true rfl) (fun u v hu hv => hG.le hu hv) hh hr hun fun b8 m8 cm8 own8 h8 t8 k8 S8 => ?_
  rw [karp, beq_self_eq_true]
  exact q _ _ _ _ _ _ (((((((k1.trans k2).trans k3).trans k4).trans k5).trans k6).trans k7).trans k8) S8
end Mine

open PySem PySem.W PyProof.Rows PySem.Calls
set_option Elab.async false
set_option maxRecDepth 100000
set_option maxHeartbeats 4000000
theorem PySem.Challenge.cw_re0113_01_holds : PySem.Challenge.rw_re0113_01.Holds := by
  refine Mine.hd ?_
  k_go0
  refine Mine.law_ok ⟨by assumption, Top.g (by assumption), Top.b (by assumption), Top.nolimit (by assumption), Top.builtins (by assumption)⟩ (Mine.start (by assumption) rfl (by assumption) (by assumption) ?_) ?_ (by assumption) (by assumption) ?_ ?_ ?_ ?_ ?_
  · intro p hp; simp only [List.mem_cons, List.not_mem_nil, or_false] at hp ⊢; rcases hp with h | h | h | h | h | h | h <;> simp [h]
  · rfl
  · omega
  · rfl
  · exact of_decide_eq_true rfl
  · exact of_decide_eq_true rfl
  · intro b' m' cm' own' h' t' kb S
    refine goodW_bool ⟨S.ns, fun a o e => S.keep _ _ (kb _ _ e), Nat.le_refl _⟩ (by assumption) (fun _ => rfl) ?_
    first
      | exact postW_of (X := true) rfl rfl rfl
      | exact postW_of (X := true) (by decide) (by decide) rfl
      | exact postW_of (X := true) (by rfl) (by kernel_rfl) rfl
