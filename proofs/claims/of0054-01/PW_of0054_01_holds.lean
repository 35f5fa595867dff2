import PyProof.Rows.All
import Wide.All
import OpenK.AllK
import Wide.FinOn
import PySem.Challenge.RW_of0054_01
open PySem PySem.W PySem.Spec PySem.Calls PyProof.Rows
set_option Elab.async false
set_option maxRecDepth 100000
set_option maxHeartbeats 8000000
set_option linter.unusedVariables false
set_option linter.unusedSimpArgs false
namespace Mine
-- text TopV
section
theorem ws : OpenLaw.wellSaid PySem.Challenge.rw_of0054_01 = true := by
  unfold OpenLaw.wellSaid
  unfold OpenRow.wellSaid OpenRow.partSaid looksOpen
  with_reducible repeat' apply look_both
  all_goals decide +kernel
local macro_rules | `(tactic| o_law) => `(tactic| refine holds_law Mine.ws fun said => ?_)
section
local macro_rules | `(tactic| o_head $_) => `(tactic| refine (fun (_ : True) x => x) ?hw ?hc)
local macro_rules | `(tactic| w_witness2) => `(tactic| trivial)
open_top hd for PySem.Challenge.rw_of0054_01
end
noncomputable def asK : List Addr := [2, 3, 15, 17, 18, 20, 21, 29, 31, 32, 34, 35, 36, 38, 39, 41, 42, 43, 45, 46, 48, 49, 50, 52, 53, 55, 56, 57, 59, 60, 62, 63, 64, 66, 67, 69, 70, 71, 73, 74, 76, 77, 78, 80, 81, 83, 84, 85, 87, 88, 90, 91, 92, 93, 94, 95, 96, 99, 102, 107, 108, 109, 111, 112, 114, 115, 116, 118, 119, 121, 122, 123, 124, 126, 127, 129, 130, 131, 132, 134, 135, 137, 138, 139, 141, 142, 144, 145, 146, 148, 149, 151, 152, 153, 154, 156, 157, 159, 160, 161, 163, 164, 166, 167, 168, 169, 171, 172, 174, 175, 176, 177, 178, 179, 180, 183, 185, 186, 188, 189, 190, 192, 193, 195, 196, 197, 198, 200, 201, 203, 204, 205, 206, 208, 209, 211, 212, 213, 215, 216, 218, 219, 220, 222, 223, 225, 226, 227, 229, 230, 232, 233, 234, 236, 237, 239, 240, 241, 244, 245, 246, 249, 250, 251, 253, 254, 256, 257, 258, 261, 262]
noncomputable def vq : Program := { PySem.Challenge.pw_of0054_01 with main := { PySem.Challenge.pw_of0054_01.main with body := PySem.Challenge.pw_of0054_01.main.body.drop 22 } }
noncomputable def lq : List Str := [Str.ofString "_wall", Str.ofString "NL", Str.ofString "EMPTYSTRING", Str.ofString "_ValueFormatter", Str.ofString "_Accumulator", Str.ofString "_buffer", Str.ofString "_truth", Str.ofString "_B64", Str.ofString "b2a_base64", Str.ofString "b64encode", Str.ofString "heappush", Str.ofString "heappop", Str.ofString "_siftdown", Str.ofString "_siftup", Str.ofString "_law_row", Str.ofString "_law_written", Str.ofString "_law_folded"]
noncomputable def hk : Hook := kmHook Mine.hd.heap_1 asK (fun _ => by kernel_rfl) [259, 140, 147]
theorem hl_ : LeftO (OpenRow.toRowW (OpenLaw.row PySem.Challenge.rw_of0054_01)).prog Mine.vq Mine.lq (fun s => xlAt Mine.vq [] s && recOk (RowW.records (OpenRow.toRowW (OpenLaw.row PySem.Challenge.rw_of0054_01))) s) (Hook.obs hk) (Hook.val hk) 3078 := by
  intro w
  unfold openEnds topFrom fencedOpening
  rw [PySem.W.Fast.te14082659384304107361, PySem.W.Fast.te10274390034422433532, PySem.W.Fast.te4187177175401517315, PySem.W.Fast.te14364793385576792824, PySem.W.Fast.te1435165496053646825, PySem.W.Fast.te14289696077712309145]
  kernel_rfl
local macro_rules | `(tactic| k_head) => `(tactic| (
  refine holds_open (q := Mine.vq) (loose := Mine.lq) (Xt := fun s => xlAt Mine.vq [] s && recOk (RowW.records (OpenRow.toRowW (OpenLaw.row PySem.Challenge.rw_of0054_01))) s) (XP := XL Mine.vq []) (Yf := Hook.obs hk) (Ya := Hook.val hk) (YP := Hook.says hk) (N := 3078) Mine.hl_ (Hook.of hk) (Hook.keeps hk) (fun s e => xl_of s (Bool.and_eq_true_iff.mp e).1) XL.keeps (by rfl) (by rfl) (by rfl) (fun s e => recFacts_of (Bool.and_eq_true_iff.mp e).2) (by rfl) (by first | assumption | decide +kernel) (by decide +kernel) ⟨rfl, rfl, rfl, rfl, rfl, by decide +kernel⟩ ?hw ?hc))
open_top hd2 for PySem.Challenge.rw_of0054_01
end
-- text Base
section
abbrev MM (w : World) : Model := model PySem.Challenge.rw_of0054_01.row.prog w
abbrev Know := Addr → Obj → Prop
abbrev Led := List (Addr × Obj)
abbrev Loc := Str → Option Value
/-- what stands at the top, for good -/
structure Stat (w : World) (h : Heap) : Prop where
  X : (Mine.hd.heap_1 w.params).In h
  T : ∃ p loose mean mg mb, Top p loose mean mg mb h
noncomputable def Know.le (J J' : Know) : Prop := ∀ a o, J a o → J' a o
theorem Know.le.refl (J : Know) : J.le J := fun _ _ h => h
theorem Know.le.trans {J J' J'' : Know} (x : J.le J') (y : J'.le J'') : J.le J'' := fun a o h => y a o (x a o h)
noncomputable def Know.add (J : Know) (a : Addr) (o : Obj) : Know := fun b x => J b x ∨ (b = a ∧ x = o)
theorem Know.add_le (J : Know) (a : Addr) (o : Obj) : J.le (J.add a o) := fun _ _ h => .inl h
theorem Know.add_self (J : Know) (a : Addr) (o : Obj) : J.add a o a o := .inr ⟨rfl, rfl⟩
/-- the situation of a walk: the frame env with its names m; outer frames Fs; things that stay J; things that may turn, the ledger -/
structure Sit (w : World) (n : Nat) (A : Around) (env : Env) (o₀ : OsState) (Fs J : Know) (m : Loc) (news : Led) (s : Shared) : Prop where
  ns : s.heap.Ns env.locals m
  lf : ∀ a o, Fs a o → s.heap.get? a = some o ∧ a ≠ env.locals ∧ a ∉ news.map (·.1)
  lj : ∀ a o, J a o → s.heap.get? a = some o ∧ a ≠ env.locals ∧ a ∉ news.map (·.1) ∧ ∀ x, ¬ Fs a x
  nw : ∀ p ∈ news, s.heap.get? p.1 = some p.2 ∧ p.1 ≠ env.locals
  nd : (news.map (·.1)).Nodup
  st : ∃ hs, Stat w hs ∧ ∀ a o, hs.get? a = some o → J a o
  fr : ∃ fs, A.frames = some fs
  hk : env.scope.kind = .function
  hg : env.globals = mainGlobals
  hb : env.builtins = builtinsNs
  hh : A.handled = none
  room : A.depth + n < recursionLimit
  units : A.units + 16 * n < cLine
  os : s.os = o₀
  bare : AllBare s.gens
variable {w : World} {n : Nat} {A : Around} {env : Env} {o₀ : OsState} {Fs J : Know} {m : Loc} {news : Led} {s : Shared} {E : Value → Shared → Prop}
theorem Sit.get (S : Sit w n A env o₀ Fs J m news s) {a : Addr} {o : Obj} (h : J a o) : s.heap.get? a = some o := (S.lj a o h).1
theorem Sit.getN (S : Sit w n A env o₀ Fs J m news s) {a : Addr} {o : Obj} (h : (a, o) ∈ news) : s.heap.get? a = some o := (S.nw _ h).1
theorem Sit.hd {a : Addr} {o : Obj} (S : Sit w n A env o₀ Fs J m ((a, o) :: news) s) : s.heap.get? a = some o := (S.nw _ (.head _)).1
theorem Sit.X (S : Sit w n A env o₀ Fs J m news s) : (Mine.hd.heap_1 w.params).In s.heap := fun a o e => by
  obtain ⟨hs, st, k⟩ := S.st
  exact S.get (k a o (st.X a o e))
theorem Sit.XJ (S : Sit w n A env o₀ Fs J m news s) {a : Addr} {o : Obj} (e : (Mine.hd.heap_1 w.params).lookup a = some o) : J a o := by
  obtain ⟨hs, st, k⟩ := S.st
  exact k a o (st.X a o e)
theorem Sit.T (S : Sit w n A env o₀ Fs J m news s) : ∃ p loose mean mg mb, Top p loose mean mg mb s.heap := by
  obtain ⟨hs, st, k⟩ := S.st
  obtain ⟨p, loose, mean, mg, mb, T⟩ := st.T
  exact ⟨p, loose, mean, mg, mb, T.keeps fun a o e => S.get (k a o e)⟩
theorem Sit.nolimit (S : Sit w n A env o₀ Fs J m news s) : s.heap.NoLimit := by
  obtain ⟨_, _, _, _, _, T⟩ := S.T
  exact T.nolimit
theorem Sit.ltL (S : Sit w n A env o₀ Fs J m news s) : env.locals < s.heap.objs.size := S.ns.lt
/-- the general move -/
theorem Sit.move (S : Sit w n A env o₀ Fs J m news s) {s' : Shared} {m' : Loc} {news' : Led} (hns : s'.heap.Ns env.locals m')
    (hkeep : ∀ a o, a ≠ env.locals → a ∉ news.map (·.1) → s.heap.get? a = some o → s'.heap.get? a = some o)
    (hnw : ∀ p ∈ news', s'.heap.get? p.1 = some p.2) (hadr : ∀ p ∈ news', p.1 ∈ news.map (·.1) ∨ s.heap.get? p.1 = none) (hnd : (news'.map (·.1)).Nodup)
    (hos : s'.os = s.os) (hbare : AllBare s'.gens) : Sit w n A env o₀ Fs J m' news' s' := by
  have off : ∀ a o, s.heap.get? a = some o → a ∉ news.map (·.1) → a ∉ news'.map (·.1) := by
    intro a o e hn hm
    obtain ⟨p, hp, rfl⟩ := List.mem_map.mp hm
    rcases hadr p hp with h | h
    · exact hn h
    · rw [h] at e; cases e
  obtain ⟨oL, _, _, hL, _⟩ := S.ns
  refine ⟨hns, fun a o h => ?_, fun a o h => ?_, fun p hp => ⟨hnw p hp, ?_⟩, hnd, S.st, S.fr, S.hk, S.hg, S.hb, S.hh, S.room, S.units, hos.trans S.os, hbare⟩
  · obtain ⟨h1, h2, h3⟩ := S.lf a o h
    exact ⟨hkeep a o h2 h3 h1, h2, off a o h1 h3⟩
  · obtain ⟨h1, h2, h3, h4⟩ := S.lj a o h
    exact ⟨hkeep a o h2 h3 h1, h2, off a o h1 h3, h4⟩
  · rcases hadr p hp with h | h
    · obtain ⟨q, hq, e⟩ := List.mem_map.mp h
      rw [← e]; exact (S.nw q hq).2
    · intro e; rw [e, hL] at h; cases h
theorem Sit.toks (S : Sit w n A env o₀ Fs J m news s) (k : Nat) : Sit w n A env o₀ Fs J m news { s with toks := k } :=
  ⟨S.ns, S.lf, S.lj, S.nw, S.nd, S.st, S.fr, S.hk, S.hg, S.hb, S.hh, S.room, S.units, S.os, S.bare⟩
/-- everything that stood stands -/
theorem Sit.keeps (S : Sit w n A env o₀ Fs J m news s) {h' : Heap} {k : Nat} (hk : ∀ a o, s.heap.get? a = some o → h'.get? a = some o) :
    Sit w n A env o₀ Fs J m news { s with heap := h', toks := k } :=
  S.move (s' := { s with heap := h', toks := k }) (S.ns.keeps hk) (fun a o _ _ e => hk a o e) (fun p hp => hk _ _ (S.nw p hp).1) (fun p hp => .inl (List.mem_map_of_mem hp)) S.nd rfl S.bare
/-- the frame's names turn, nothing else -/
theorem Sit.names (S : Sit w n A env o₀ Fs J m news s) {h' : Heap} {k : Nat} {m' : Loc} (hn : h'.Ns env.locals m') (hs : Heap.SameBut env.locals s.heap h') :
    Sit w n A env o₀ Fs J m' news { s with heap := h', toks := k } :=
  S.move (s' := { s with heap := h', toks := k }) hn (fun a o ha _ e => (hs.2 a ha).trans e) (fun p hp => (hs.2 _ (S.nw p hp).2).trans (S.nw p hp).1) (fun p hp => .inl (List.mem_map_of_mem hp)) S.nd rfl S.bare
/-- a thing of the ledger's head turns -/
theorem Sit.turn {a : Addr} {o o' : Obj} (S : Sit w n A env o₀ Fs J m ((a, o) :: news) s) {h' : Heap} {k : Nat} (hs : Heap.SameBut a s.heap h') (hget : h'.get? a = some o') :
    Sit w n A env o₀ Fs J m ((a, o') :: news) { s with heap := h', toks := k } := by
  have hd := (List.nodup_cons.mp S.nd)
  refine S.move (s' := { s with heap := h', toks := k }) (S.ns.sameBut hs (Ne.symm (S.nw _ (.head _)).2)) (fun b x _ hb e => (hs.2 b (fun q => hb (by rw [q]; exact .head _))).trans e)
    (fun p hp => ?_) (fun p hp => ?_) S.nd rfl S.bare
  · rcases List.mem_cons.mp hp with rfl | hp
    · exact hget
    · exact (hs.2 _ (fun q => hd.1 (by show a ∈ _; rw [← q]; exact List.mem_map.mpr ⟨p, hp, rfl⟩))).trans (S.nw p (.tail _ hp)).1
  · rcases List.mem_cons.mp hp with rfl | hp
    · exact .inl (.head _)
    · exact .inl (.tail _ (List.mem_map_of_mem hp))
/-- a new thing -/
theorem Sit.push (S : Sit w n A env o₀ Fs J m news s) (o : Obj) {k : Nat} (hf : o.isFreed = false := by rfl) :
    Sit w n A env o₀ Fs J m ((s.heap.objs.size, o) :: news) { s with heap := s.heap.push o, toks := k } := by
  have fresh : s.heap.get? s.heap.objs.size = none := by
    cases q : s.heap.get? s.heap.objs.size with
    | none => rfl
    | some x => exact absurd (Heap.lt_size q) (Nat.lt_irrefl _)
  refine S.move (s' := { s with heap := s.heap.push o, toks := k }) (S.ns.push o) (fun a x _ _ e => Heap.get?_push_of_some o e) (fun p hp => ?_) (fun p hp => ?_) ?_ rfl S.bare
  · rcases List.mem_cons.mp hp with rfl | hp
    · exact Heap.get?_push_size _ hf
    · exact Heap.get?_push_of_some o (S.nw p hp).1
  · rcases List.mem_cons.mp hp with rfl | hp
    · exact .inr fresh
    · exact .inl (List.mem_map_of_mem hp)
  · refine List.nodup_cons.mpr ⟨fun hm => ?_, S.nd⟩
    obtain ⟨p, hp, e⟩ := List.mem_map.mp hm
    have := (S.nw p hp).1
    rw [e, fresh] at this; cases this
/-- it stays as it is from here on -/
theorem Sit.freeze {a : Addr} {o : Obj} (S : Sit w n A env o₀ Fs J m ((a, o) :: news) s) : Sit w n A env o₀ Fs (J.add a o) m news s := by
  have hd := List.nodup_cons.mp S.nd
  refine ⟨S.ns, fun b x h => ?_, fun b x h => ?_, fun p hp => S.nw p (.tail _ hp), hd.2, ?_, S.fr, S.hk, S.hg, S.hb, S.hh, S.room, S.units, S.os, S.bare⟩
  · obtain ⟨h1, h2, h3⟩ := S.lf b x h
    exact ⟨h1, h2, fun q => h3 (.tail _ q)⟩
  · rcases h with h | ⟨rfl, rfl⟩
    · obtain ⟨h1, h2, h3, h4⟩ := S.lj b x h
      exact ⟨h1, h2, fun q => h3 (.tail _ q), h4⟩
    · exact ⟨(S.nw _ (.head _)).1, (S.nw _ (.head _)).2, hd.1, fun y hy => (S.lf _ y hy).2.2 (.head _)⟩
  · obtain ⟨hs, st, k⟩ := S.st
    exact ⟨hs, st, fun a o e => .inl (k a o e)⟩
theorem Sit.perm (S : Sit w n A env o₀ Fs J m news s) {news' : Led} (p : news'.Perm news) : Sit w n A env o₀ Fs J m news' s :=
  have mem : ∀ {a : Addr}, a ∈ news'.map (·.1) ↔ a ∈ news.map (·.1) := (p.map (·.1)).mem_iff
  ⟨S.ns, fun a o h => let ⟨h1, h2, h3⟩ := S.lf a o h; ⟨h1, h2, fun q => h3 (mem.mp q)⟩, fun a o h => let ⟨h1, h2, h3, h4⟩ := S.lj a o h; ⟨h1, h2, fun q => h3 (mem.mp q), h4⟩,
    fun q hq => S.nw q (p.mem_iff.mp hq), (p.map (·.1)).nodup_iff.mpr S.nd, S.st, S.fr, S.hk, S.hg, S.hb, S.hh, S.room, S.units, S.os, S.bare⟩
theorem Sit.sub (S : Sit w n A env o₀ Fs J m news s) {news' : Led} (p : news'.Sublist news) : Sit w n A env o₀ Fs J m news' s :=
  have mem : ∀ {a : Addr}, a ∈ news'.map (·.1) → a ∈ news.map (·.1) := fun q => (p.map (·.1)).subset q
  ⟨S.ns, fun a o h => let ⟨h1, h2, h3⟩ := S.lf a o h; ⟨h1, h2, fun q => h3 (mem q)⟩, fun a o h => let ⟨h1, h2, h3, h4⟩ := S.lj a o h; ⟨h1, h2, fun q => h3 (mem q), h4⟩,
    fun q hq => S.nw q (p.subset hq), S.nd.sublist (p.map (·.1)), S.st, S.fr, S.hk, S.hg, S.hb, S.hh, S.room, S.units, S.os, S.bare⟩
theorem Sit.drop {p : Addr × Obj} (S : Sit w n A env o₀ Fs J m (p :: news) s) : Sit w n A env o₀ Fs J m news s := S.sub (List.sublist_cons_self _ _)
theorem Sit.less (S : Sit w n A env o₀ Fs J m news s) {k : Nat} (h : k ≤ n) : Sit w k A env o₀ Fs J m news s :=
  ⟨S.ns, S.lf, S.lj, S.nw, S.nd, S.st, S.fr, S.hk, S.hg, S.hb, S.hh, by have := S.room; omega, by have := S.units; omega, S.os, S.bare⟩
theorem Sit.in1 (S : Sit w (n + 1) A env o₀ Fs J m news s) : Sit w n A.in1 env o₀ Fs J m news s :=
  ⟨S.ns, S.lf, S.lj, S.nw, S.nd, S.st, S.fr, S.hk, S.hg, S.hb, S.hh, by have := S.room; show A.depth + n < _; omega, by have := S.units; show A.units + 1 + 16 * n < _; omega, S.os, S.bare⟩
theorem Sit.out1 (S : Sit w n A.in1 env o₀ Fs J m news s) {k : Nat} (T : Sit w k A env o₀ Fs J m news s) : Sit w k A env o₀ Fs J m news s := T
/-- the same about another round, if the frame is the same -/
theorem Sit.around {k : Nat} {A' : Around} {J₀ : Know} {m₀ : Loc} {news₀ : Led} {s₀ : Shared} (S : Sit w n A' env o₀ Fs J m news s) (T : Sit w k A env o₀ Fs J₀ m₀ news₀ s₀) : Sit w k A env o₀ Fs J m news s :=
  ⟨S.ns, S.lf, S.lj, S.nw, S.nd, S.st, T.fr, S.hk, S.hg, S.hb, T.hh, T.room, T.units, S.os, S.bare⟩
end
-- text R1
section
variable {w : World} {n : Nat} {A : Around} {env : Env} {o₀ : OsState} {Fs J : Know} {m : Loc} {news : Led} {s : Shared} {E : Value → Shared → Prop}
noncomputable def upd (m : Loc) (x : Str) (v : Value) : Loc := fun y => if y = x then some v else m y
theorem Sit.ld (S : Sit w n A env o₀ Fs J m news s) {x : Str} {pos : Pos} {v : Value} {Q : Value → Shared → Prop} (hx : env.kindOf x = some .local) (hv : m x = some v) (h : Q v s)
    (hd : (x == ("__debug__" : Str)) = false := by decide) : wpAny (MM w) A (eval (.Name x pos) env) Q E s := wpAny_Name (wpAny_loadName_local S.hk hx S.ns hv h) hd
theorem Sit.gl (S : Sit w n A env o₀ Fs J m news s) {x : Str} {pos : Pos} {v : Value} {Q : Value → Shared → Prop} (hx : env.kindOf x = some .globalImplicit) (e : nsIn (Mine.hd.heap_1 w.params) mainGlobals x = some (some v)) (h : Q v s)
    (hd : (x == ("__debug__" : Str)) = false := by decide) : wpAny (MM w) A (eval (.Name x pos) env) Q E s := by
  obtain ⟨_, _, _, mg, mb, T⟩ := S.T
  exact Name_function_global S.hk hx (loadGlobal_global (by rw [S.hg]; exact T.g) (mg_of S.X T.g e) h) hd
theorem Sit.bi (S : Sit w n A env o₀ Fs J m news s) {x : Str} {pos : Pos} {v : Value} {Q : Value → Shared → Prop} (hx : env.kindOf x = some .globalImplicit) (e : nsIn (Mine.hd.heap_1 w.params) mainGlobals x = some none) (hv : bootBuiltins x = some v)
    (h : Q v s) (hn : x ≠ "__name__" := by decide) (hd : (x == ("__debug__" : Str)) = false := by decide) : wpAny (MM w) A (eval (.Name x pos) env) Q E s := by
  obtain ⟨_, _, _, mg, mb, T⟩ := S.T
  exact Name_function_global S.hk hx (loadGlobal_builtin (by rw [S.hg]; exact T.g) (mg_none_of S.X T.g e) (by rw [S.hb]; exact T.b) ((T.builtins x hn).trans hv) h) hd
theorem Sit.ci (S : Sit w n A env o₀ Fs J m news s) {i : Int} {k : Nat} {pos : Pos} {Q : Value → Shared → Prop} (h : ∀ t s', Sit w n A env o₀ Fs J m news s' → Q (.int i t) s') : wpAny (MM w) A (eval (.Constant (.int i) k pos) env) Q E s :=
  wpAny_Constant_int (h _ _ (S.toks _))
theorem Sit.cs (S : Sit w n A env o₀ Fs J m news s) {x : Str} {k : Nat} {pos : Pos} {Q : Value → Shared → Prop} (h : ∀ t s', Sit w n A env o₀ Fs J m news s' → Q (.str x t) s') : wpAny (MM w) A (eval (.Constant (.str x) k pos) env) Q E s :=
  Constant_str (h _ _ (S.toks _))
theorem Sit.st_ (S : Sit w n A env o₀ Fs J m news s) {x : Str} {v : Value} {Q : Unit → Shared → Prop} (hx : env.kindOf x = some .local) (h : ∀ s', Sit w n A env o₀ Fs J (upd m x v) news s' → Q () s') :
    wpAny (MM w) A (storeName env x v) Q E s :=
  wpAny_storeName_local hx S.ns (fun h' hn hs => h _ (S.names hn hs)) (by rw [S.hk]; rfl)
theorem kind_of {env : Env} {sc : Scope} {x : Str} {k : NameKind} (h : env.scope = sc) (e : sc.names.lookup x = some k) : env.kindOf x = some k := by
  unfold Env.kindOf
  rw [h]; exact e
theorem Sit.quiet (S : Sit w n A env o₀ Fs J m news s) : interactive env = false := by
  unfold interactive
  rw [S.hk]; rfl
noncomputable def retv : Flow → Value
  | .ret v => v
  | _ => .none
noncomputable def FsOf (Fs : Know) (L : Addr) (h : Heap) : Know := fun a o => Fs a o ∨ (a = L ∧ h.get? a = some o)
/-- the way back from a def -/
noncomputable def Back (w : World) (n : Nat) (A : Around) (env env' : Env) (o₀ : OsState) (Fs Fs' : Know) (m : Loc) (Q : Value → Shared → Prop) (fl : Flow) (s' : Shared) : Prop :=
  ∃ J' m' news', Sit w n (A.deeper env') env' o₀ Fs' J' m' news' s' ∧ (Sit w (n + 1) A env o₀ Fs J' m news' s' → Q (retv fl) s')
theorem Sit.defcall (S : Sit w (n + 1) A env o₀ Fs J m news s) {f : Addr} {args : List Value} {kw : List (Str × Value)} {o : Obj} {fd : FuncData} {body : List Stmt} {binds : List (Str × Value)} {Q : Value → Shared → Prop}
    (ho : (Mine.hd.heap_1 w.params).lookup f = some o) (hd : o.data = .func fd) (hbody : fd.body = .stmts body) (hcode : codeIn (Mine.hd.heap_1 w.params) fd.code fd.qualname = true) (hbind : BindsTo s fd ⟨args, kw⟩ binds)
    (hcell : ∀ x ∈ fd.scope.names, x.2 ≠ .cell) (hloc : ∀ x ∈ binds, fd.scope.names.lookup x.1 = some .local) (hgl : fd.globals = mainGlobals) (hbl : fd.builtins = builtinsNs)
    (hco : fd.scope.isCoroutine = false) (hgen : fd.scope.isGenerator = false) (hk : fd.scope.kind = .function)
    (h : ∀ env' s₁ E' Fs', env'.scope = fd.scope → env'.cells = fd.closure → env'.code = fd.code → env'.qual = fd.qualname ++ ".<locals>." → (∃ fs, (A.deeper env').frames = some (env' :: fs)) → Sit w n (A.deeper env') env' o₀ Fs' J (fun x => binds.reverse.lookup x) news s₁ →
      wpAny (MM w) (A.deeper env') (execs body env') (Back w n A env env' o₀ Fs Fs' m Q) E' s₁) :
    wpAny (MM w) A (PySem.call (.ref f) args kw) Q E s := by
  have X := S.X
  refine wpAny_call (codeAny_call_def (by have := S.room; omega) (X _ _ ho) hd S.nolimit (codeRec_of X hcode) hbody hbind hcell hloc (fun h₁ hns hk₁ => ?_) hco hgen hk)
  obtain ⟨oL, esL, epL, hL, rL⟩ := S.ns
  have ne : ∀ {a : Addr} {x : Obj}, s.heap.get? a = some x → a ≠ s.heap.objs.size := fun e => Nat.ne_of_lt (Heap.lt_size e)
  have hLn : env.locals ∉ news.map (·.1) := fun q => by
    obtain ⟨p, hp, e⟩ := List.mem_map.mp q
    exact (S.nw p hp).2 e
  have S₁ : Sit w n (A.deeper (callEnv fd s.heap.objs.size f)) (callEnv fd s.heap.objs.size f) o₀ (FsOf Fs env.locals s.heap) J (fun x => binds.reverse.lookup x) news { s with heap := h₁, toks := s.toks + binds.length } := by
    refine ⟨hns, fun a x e => ?_, fun a x e => ?_, fun p hp => ⟨hk₁ _ _ (S.nw p hp).1, ne (S.nw p hp).1⟩, S.nd, S.st, ?_, hk, hgl, hbl, S.hh, ?_, ?_, S.os, S.bare⟩
    · rcases e with e | ⟨rfl, e⟩
      · obtain ⟨h1, h2, h3⟩ := S.lf a x e
        exact ⟨hk₁ _ _ h1, ne h1, h3⟩
      · exact ⟨hk₁ _ _ e, ne e, hLn⟩
    · obtain ⟨h1, h2, h3, h4⟩ := S.lj a x e
      refine ⟨hk₁ _ _ h1, ne h1, h3, fun y q => ?_⟩
      rcases q with q | ⟨q, _⟩
      · exact h4 y q
      · exact h2 q
    · obtain ⟨fs, hA⟩ := S.fr
      exact ⟨_ :: fs, by show A.frames.map _ = _; rw [hA]; rfl⟩
    · have := S.room; show A.depth + 1 + n < _; omega
    · have := S.units; show A.units + 3 + 16 * n < _; omega
  refine wpAny_mono (h _ _ _ _ rfl rfl rfl rfl (let ⟨fs, hA⟩ := S.fr; ⟨fs, by show A.frames.map _ = _; rw [hA]; rfl⟩) S₁) (fun fl s' hb => ?_) fun _ _ e => e
  obtain ⟨J', m', news', S', hq⟩ := hb
  suffices hh : Q (retv fl) s' by cases fl <;> exact hh
  refine hq ?_
  have keepL := S'.lf env.locals oL (.inr ⟨rfl, hL⟩)
  refine ⟨⟨oL, esL, epL, keepL.1, rL⟩, fun a x q => ?_, fun a x q => ?_, fun p hp => ⟨(S'.nw p hp).1, fun q => keepL.2.2 (by rw [← q]; exact List.mem_map_of_mem hp)⟩, S'.nd, S'.st, S.fr, S.hk, S.hg, S.hb, S.hh, S.room, S.units, S'.os, S'.bare⟩
  · obtain ⟨h1, h2, h3⟩ := S'.lf a x (.inl q)
    exact ⟨h1, (S.lf a x q).2.1, h3⟩
  · obtain ⟨h1, h2, h3, h4⟩ := S'.lj a x q
    exact ⟨h1, fun z => h4 oL (.inr ⟨z, z ▸ hL⟩), h3, fun y z => h4 y (.inl z)⟩
end
-- text R2
section
variable {w : World} {n : Nat} {A : Around} {env : Env} {o₀ : OsState} {Fs J : Know} {m : Loc} {news : Led} {s : Shared} {E : Value → Shared → Prop}
abbrev lO (vs : List Value) (e : Nat) : Obj := { cls := .type "list", data := .seq vs.toArray e }
abbrev tO (vs : List Value) : Obj := { cls := .type "tuple", data := .seq vs.toArray }
/-! ints -/
section
variable {a b : Int} {t u : Tok} {Q : Value → Shared → Prop}
theorem Sit.add (S : Sit w n A env o₀ Fs J m news s) (h : ∀ t s', Sit w n A env o₀ Fs J m news s' → Q (.int (a + b) t) s') : wpAny (MM w) A (binaryOp .Add (.int a t) (.int b u)) Q E s := add_int (h _ _ (S.toks _))
theorem Sit.sub' (S : Sit w n A env o₀ Fs J m news s) (h : ∀ t s', Sit w n A env o₀ Fs J m news s' → Q (.int (a - b) t) s') : wpAny (MM w) A (binaryOp .Sub (.int a t) (.int b u)) Q E s := sub_int (h _ _ (S.toks _))
theorem Sit.mul (S : Sit w n A env o₀ Fs J m news s) (hm : IntMulOk a b) (h : ∀ t s', Sit w n A env o₀ Fs J m news s' → Q (.int (a * b) t) s') : wpAny (MM w) A (binaryOp .Mult (.int a t) (.int b u)) Q E s := mul_int (h _ _ (S.toks _)) hm
theorem Sit.shr (S : Sit w n A env o₀ Fs J m news s) (hb : 0 ≤ b) (h : ∀ t s', Sit w n A env o₀ Fs J m news s' → Q (.int (a.fdiv (2 ^ b.toNat)) t) s') : wpAny (MM w) A (binaryOp .RShift (.int a t) (.int b u)) Q E s := rshift_int hb (h _ _ (S.toks _))
theorem Sit.shl (S : Sit w n A env o₀ Fs J m news s) (hb : 0 ≤ b) (hb2 : b ≤ 1000000) (ha : a.natAbs < 2 ^ 64) (h : ∀ t s', Sit w n A env o₀ Fs J m news s' → Q (.int (a * 2 ^ b.toNat) t) s') : wpAny (MM w) A (binaryOp .LShift (.int a t) (.int b u)) Q E s := lshift_int_small hb hb2 ha (h _ _ (S.toks _))
theorem Sit.pow (S : Sit w n A env o₀ Fs J m news s) (hb : 0 ≤ b) (hb2 : b ≤ 1000000) (ha : a.natAbs < 2 ^ 64) (h : ∀ t s', Sit w n A env o₀ Fs J m news s' → Q (.int (a ^ b.toNat) t) s') : wpAny (MM w) A (binaryOp .Pow (.int a t) (.int b u)) Q E s := pow_int_small hb hb2 ha (h _ _ (S.toks _))
theorem Sit.band (S : Sit w n A env o₀ Fs J m news s) (h : ∀ t s', Sit w n A env o₀ Fs J m news s' → Q (.int (Builtin.bitAnd a b) t) s') : wpAny (MM w) A (binaryOp .BitAnd (.int a t) (.int b u)) Q E s := and_int (h _ _ (S.toks _))
theorem Sit.bor (S : Sit w n A env o₀ Fs J m news s) (h : ∀ t s', Sit w n A env o₀ Fs J m news s' → Q (.int (Builtin.bitOr a b) t) s') : wpAny (MM w) A (binaryOp .BitOr (.int a t) (.int b u)) Q E s := or_int (h _ _ (S.toks _))
theorem Sit.mod (S : Sit w n A env o₀ Fs J m news s) (hb : b ≠ 0) (h : ∀ t s', Sit w n A env o₀ Fs J m news s' → Q (.int (a.fmod b) t) s') : wpAny (MM w) A (binaryOp .Mod (.int a t) (.int b u)) Q E s := mod_int' hb (h _ _ (S.toks _))
theorem Sit.div (S : Sit w n A env o₀ Fs J m news s) (hb : b ≠ 0) (hp : Builtin.divisionGoesByPylong a b = false) (h : ∀ t s', Sit w n A env o₀ Fs J m news s' → Q (.int (a.fdiv b) t) s') : wpAny (MM w) A (binaryOp .FloorDiv (.int a t) (.int b u)) Q E s := floordiv_int hb (h _ _ (S.toks _)) (.inl hp)
theorem Sit.neg (S : Sit w n A env o₀ Fs J m news s) (h : ∀ t s', Sit w n A env o₀ Fs J m news s' → Q (.int (-a) t) s') : wpAny (MM w) A (unaryOp .USub (.int a t)) Q E s := neg_int (h _ _ (S.toks _))
end
/-! lists -/
theorem Sit.item {value slice : Expr} {l : Addr} {vs : List Value} {e : Nat} {k : Int} {t : Tok} {v : Value} {Q : Value → Shared → Prop} (ho : s.heap.get? l = some (lO vs e)) (h0 : 0 ≤ k) (hf : k < 2 ^ 63) (hx : vs[k.toNat]? = some v) (h : Q v s)
    (hs : subscripted slice false (.ref l) (.int k t) = operate [.ref l, .int k t] (getItem (.ref l) (.int k t)) := by with_unfolding_all rfl) :
    wpAny (MM w) A (subscriptTail value slice (.ref l) (.int k t)) Q E s :=
  have hl : s.heap.IsList l vs.toArray := ⟨_, ho, rfl, e, rfl⟩
  tail_any hl.typeIs slot_list_getitem.lookup (wpAny_getItem_list hl h0 hf (by simpa using hx) h) hs
theorem Sit.setItem {l : Addr} {vs : List Value} {e : Nat} {k : Int} {t : Tok} {v : Value} {Q : Unit → Shared → Prop} (S : Sit w n A env o₀ Fs J m ((l, lO vs e) :: news) s) (h0 : 0 ≤ k) (hf : k < 2 ^ 63) (hk : k < vs.length)
    (h : ∀ s', Sit w n A env o₀ Fs J m ((l, lO (vs.set k.toNat v) e) :: news) s' → Q () s') : wpAny (MM w) A (setItem (.ref l) (.int k t) v) Q E s := by
  have ho := (S.nw _ (.head _)).1
  refine ki_setAt (items := vs.toArray) (n := e) ho h0 hf (by simpa using hk) (h _ (S.turn (k := s.toks) (Heap.SameBut.update ..) ?_))
  rw [Heap.get?_update_self _ ho rfl]
  simp [Obj.mapSeq]
theorem Sit.append {l : Addr} {vs : List Value} {e : Nat} {v : Value} {Q : Value → Shared → Prop} (S : Sit w n A env o₀ Fs J m ((l, lO vs e) :: news) s) (hz : vs.length ≤ sizeLine)
    (h : ∀ s', Sit w n A env o₀ Fs J m ((l, lO (vs ++ [v]) (e + 1)) :: news) s' → Q .none s') : wpAny (MM w) A (call (.builtin "list.append") [.ref l, v]) Q E s := by
  refine append_at (its := vs.toArray) (n := e) (S.nw _ (.head _)).1 (fun h' hs ho' => h _ (S.turn (k := s.toks) hs ?_)) (by simpa using hz)
  rw [ho']; simp
theorem Sit.popLast {l : Addr} {vs : List Value} {e : Nat} {v : Value} {Q : Value → Shared → Prop} (S : Sit w n A env o₀ Fs J m ((l, lO (vs ++ [v]) e) :: news) s) (hz : (vs ++ [v]).length ≤ sizeLine)
    (h : ∀ s', Sit w n A env o₀ Fs J m ((l, lO vs (e + 1)) :: news) s' → Q v s') : wpAny (MM w) A (call (.builtin "list.pop") [.ref l]) Q E s := by
  have ho := (S.nw _ (.head _)).1
  refine call_meets PySem.F.slot_list_pop ⟨_, ho, rfl⟩ PySem.F.entry_list_pop (PySem.F.args_list_pop_1 _) (PySem.MeetsSeq.list_pop_last l (vs ++ [v]).toArray e v (by simp) (by simpa using hz)) ⟨ho, ?_⟩
  refine h _ (S.turn (k := s.toks) (Heap.SameBut.update ..) ?_)
  have e1 : (vs ++ [v]).eraseIdx vs.length = vs := by rw [List.eraseIdx_append_of_length_le (Nat.le_refl _)]; simp
  rw [Heap.get?_update_self _ ho (by simp [Obj.mapSeq]; rfl)]
  simp [Obj.mapSeq, e1]
theorem Sit.lenL {l : Addr} {vs : List Value} {e : Nat} {Q : Value → Shared → Prop} (S : Sit w n A env o₀ Fs J m news s) (ho : s.heap.get? l = some (lO vs e)) (hz : vs.length < 2 ^ 63)
    (h : ∀ t s', Sit w n A env o₀ Fs J m news s' → Q (.int vs.length t) s') : wpAny (MM w) A (call (.builtin "len") [.ref l]) Q E s := by
  refine call_len_list (items := vs.toArray) ⟨_, ho, rfl, e, rfl⟩ (by simp; omega) ?_
  have := h (s.toks + 1) _ (S.toks (s.toks + 1 + 1))
  simpa using this
theorem Sit.truthL {l : Addr} {vs : List Value} {e : Nat} {Q : Bool → Shared → Prop} (S : Sit w n A env o₀ Fs J m news s) (ho : s.heap.get? l = some (lO vs e)) (hz : vs.length < 2 ^ 63)
    (h : ∀ s', Sit w n A env o₀ Fs J m news s' → Q (!vs.isEmpty) s') : wpAny (MM w) A (truthy (.ref l)) Q E s := by
  refine wpAny_truthy_list (items := vs.toArray) ⟨_, ho, rfl, e, rfl⟩ (by simp; omega) ?_
  have := h _ (S.toks (s.toks + 1 + 1))
  cases vs with
  | nil => exact this
  | cons a l => exact this
/-! statements -/
theorem Sit.expr (S : Sit w n A env o₀ Fs J m news s) {e : Expr} {pos : Pos} {Q : Flow → Shared → Prop} (h : wpAny (MM w) A (eval e env) (fun v s' => match v with | .ref _ => False | _ => Q .next s') E s)
    (hs : swapsWith e none pos.line env = pure false := by rfl) : wpAny (MM w) A (exec (.Expr e pos) env) Q E s := wpAny_Expr h S.quiet hs
/-- a while by what holds -/
theorem while_ {test : Expr} {body : List Stmt} {pos : Pos} {Q : Flow → Shared → Prop} (I : Nat → Shared → Prop) (k : Nat) (h0 : I k s)
    (turn : ∀ k s E', I k s → wpAny (MM w) A (isTrue test env (eval test env)) (fun b s₂ => if b = true then wpAny (MM w) A (execs body env) (fun f s₃ => match f with
        | .next | .cont => ∃ j, j < k ∧ I j s₃
        | .brk => Q .next s₃
        | .ret v => Q (.ret v) s₃) E' s₂ else Q .next s₂) E' s) : wpAny (MM w) A (exec (.While test body [] pos) env) Q E s := by
  refine wpAny_While (codeAny_whileLoop I (fun k s hI => wpAny_mono (turn k s _ hI) (fun b s₂ h₂ => ?_) fun _ _ e => e) k h0)
  cases b with
  | false => exact wpAny_execs_nil h₂
  | true =>
    simp only [if_true] at h₂ ⊢
    refine wpAny_mono h₂ (fun f s₃ h₃ => ?_) fun _ _ e => e
    cases f <;> exact h₃
end
-- text LT
section
open MeetsSeq MeetsSeq2 MeetsSeq3 SeqRoads2 SeqAt
noncomputable def LtAt (A : Around) (s : Shared) (y x : Value) (b : Bool) : Prop :=
  ∀ (prog : Program) (w : World) (E : Value → Shared → Prop) (Q : Value → Shared → Prop), Q (.bool b) s → wpAny (model prog w) A (richCompare .Lt y x) Q E s
noncomputable def ltR (n1 n2 : Nat) (e r : Nat → Bool) : Nat → Nat → Bool
  | 0, _ => decide (n1 < n2)
  | k + 1, i => if e i = true then ltR n1 n2 e r k (i + 1) else r i
theorem lt_loopAt (l b : Addr) (items items2 : Array Value) (n n2 : Nat) (dd dd2 : Option Addr) (sl sl2 : Array (Option Value)) (e r : Nat → Bool) (k : Nat) :
    ∀ i : Nat, min items.size items2.size - i = k → Meets (Builtin.«list.__eq__.loop» ⟨[.ref l, .ref b, rawInt i, rawInt 0], []⟩)
      (fun A R s => s.heap.get? l = some { cls := .type "list", dict := dd, data := .seq items n, slots := sl } ∧ s.heap.get? b = some { cls := .type "list", dict := dd2, data := .seq items2 n2, slots := sl2 } ∧
        (∀ j (h1 : j < items.size) (h2 : j < items2.size), EqAt A.in1 s items[j] items2[j] (e j)) ∧ (∀ j (h1 : j < items.size) (h2 : j < items2.size), e j = false → LtAt A.in1 s items[j] items2[j] (r j)) ∧
        R (.ok (.ret (.bool (ltR items.size items2.size e r k i)))) s) := by
  induction k with
  | zero =>
    intro i hk prog w A R s h
    obtain ⟨hp, g, d, tk, os⟩ := s; obtain ⟨hl, hb, he, hr, h⟩ := h
    wp_walk using wpAny_loadPart' hl, wpAny_loadPart' hb
    rcases Nat.lt_or_ge i items.size with h1 | h1
    · have hi1 : items[((i : Nat) : Int).toNat]? = some items[i] := by simp [h1]
      have hi2 : items2[((i : Nat) : Int).toNat]? = none := by simp; omega
      rw [hi1, hi2]
      wp_walk using wpAny_loadPart' hl, wpAny_loadPart' hb
      exact h
    · have hi1 : items[((i : Nat) : Int).toNat]? = none := by simp; omega
      rw [hi1]
      wp_walk using wpAny_loadPart' hl, wpAny_loadPart' hb
      exact h
  | succ k ih =>
    intro i hk prog w A R s h
    obtain ⟨hp, g, d, tk, os⟩ := s; obtain ⟨hl, hb, he, hr, h⟩ := h
    wp_walk using wpAny_loadPart' hl, wpAny_loadPart' hb
    have hlt : i < items.size := by omega
    have hlt2 : i < items2.size := by omega
    have hi1 : items[((i : Nat) : Int).toNat]? = some items[i] := by simp [hlt]
    have hi2 : items2[((i : Nat) : Int).toNat]? = some items2[i] := by simp [hlt2]
    have hc : ((i : Int) + 1) = ((i + 1 : Nat) : Int) := by push_cast; rfl
    rw [hi1, hi2]
    refine wpAny_bind (he i hlt hlt2 prog w _ _ ?_)
    unfold ltR at h
    cases hb' : e i with
    | true =>
      rw [hb'] at h
      wp_walk
      rw [hc]
      exact ⟨plainId_quiet plain_eq_loop _, codeAny_builtin entry_eq_loop (by
        rw [Around.under_plainId plain_eq_loop _]
        exact ih (i + 1) (by omega) prog w A R _ ⟨hl, hb, he, hr, by simpa using h⟩)⟩
    | false =>
      rw [hb'] at h
      wp_walk using wpAny_loadPart' hl, wpAny_loadPart' hb
      rw [hi1, hi2]
      dsimp only
      refine wpAny_bind (hr i hlt hlt2 hb' prog w _ _ ?_)
      wp_walk
      simpa using h
theorem list_ltAt (l b : Addr) (items items2 : Array Value) (n n2 : Nat) (dd dd2 : Option Addr) (sl sl2 : Array (Option Value)) (e r : Nat → Bool) :
    Meets (Builtin.«list.__lt__» ⟨[.ref l, .ref b], []⟩)
      (fun A R s => s.heap.get? l = some { cls := .type "list", dict := dd, data := .seq items n, slots := sl } ∧ s.heap.get? b = some { cls := .type "list", dict := dd2, data := .seq items2 n2, slots := sl2 } ∧
        (∀ j (h1 : j < items.size) (h2 : j < items2.size), EqAt A.in1 s items[j] items2[j] (e j)) ∧ (∀ j (h1 : j < items.size) (h2 : j < items2.size), e j = false → LtAt A.in1 s items[j] items2[j] (r j)) ∧
        R (.ok (.ret (.bool (ltR items.size items2.size e r (min items.size items2.size) 0)))) s) := by
  intro prog w A R s h
  obtain ⟨hp, g, d, tk, os⟩ := s; obtain ⟨hl, hb, he, hr, h⟩ := h
  have f3 := AutoSeq1.sub_list_list
  wp_walk using wpAny_loadPart' hl, wpAny_loadPart' hb
  exact ⟨plainId_quiet plain_eq_loop _, codeAny_builtin entry_eq_loop (by
    rw [Around.under_plainId plain_eq_loop _]
    exact lt_loopAt l b items items2 n n2 dd dd2 sl sl2 e r _ 0 rfl prog w A R _ ⟨hl, hb, he, hr, by simpa using h⟩)⟩
theorem LtAt.lists {A : Around} {s : Shared} {l b : Addr} {items items2 : Array Value} {e r : Nat → Bool} (hl : s.heap.IsList l items) (hb : s.heap.IsList b items2) (hu : A.units < cLine)
    (he : ∀ j (h1 : j < items.size) (h2 : j < items2.size), EqAt A.in1 s items[j] items2[j] (e j)) (hr : ∀ j (h1 : j < items.size) (h2 : j < items2.size), e j = false → LtAt A.in1 s items[j] items2[j] (r j)) :
    LtAt A s (.ref l) (.ref b) (ltR items.size items2.size e r (min items.size items2.size) 0) := fun prog w E Q h => by
  obtain ⟨⟨cls, dd, data, sl⟩, ho, hc, n, hd⟩ := id hl
  obtain ⟨⟨cls2, dd2, data2, sl2⟩, ho2, hc2, n2, hd2⟩ := id hb
  simp only at hc hd hc2 hd2
  subst hc hd hc2 hd2
  exact richCompare_meets_room (op := .Lt) ⟨_, ho, rfl⟩ ⟨_, ho2, rfl⟩ F.slot_list_lt F.entry_list_lt (F.args_list_lt_2 _ _) (list_ltAt l b items items2 n n2 dd dd2 sl sl2 e r)
    ⟨ho, ho2, he, hr, show Value.bool _ ≠ Value.notImplemented ∧ Q (.bool _) s from ⟨(fun x => nomatch x), h⟩⟩ hu
theorem ltAt_int {A : Around} {s : Shared} (a b : Int) (t u : Tok) : LtAt A s (.int a t) (.int b u) (decide (a < b)) := fun prog w E Q h => lt_int h
noncomputable def lexLt : List Int → List Int → Bool
  | [], [] => false
  | [], _ :: _ => true
  | _ :: _, [] => false
  | x :: xs, y :: ys => if x = y then lexLt xs ys else decide (x < y)
theorem lexLt_irr : ∀ xs : List Int, lexLt xs xs = false
  | [] => rfl
  | x :: xs => by unfold lexLt; rw [if_pos rfl]; exact lexLt_irr xs
theorem ints_at {vs : List Value} {ns : List Int} (h : IntsAre vs ns) : ∀ j (hj : j < vs.length), ∃ t, ∃ hj' : j < ns.length, vs[j] = .int ns[j] t := by
  induction h with
  | nil => intro j hj; cases hj
  | cons i t _ ih =>
    intro j hj
    cases j with
    | zero => exact ⟨t, Nat.succ_pos _, rfl⟩
    | succ j =>
      obtain ⟨t', h1, h2⟩ := ih j (Nat.lt_of_succ_lt_succ hj)
      exact ⟨t', Nat.succ_lt_succ h1, h2⟩
theorem ints_uniq {vs : List Value} {ns ms : List Int} (h : IntsAre vs ns) : IntsAre vs ms → ns = ms := by
  induction h generalizing ms with
  | nil => intro k; cases k; rfl
  | cons i t _ ih =>
    intro k
    cases k with
    | cons j u k => rw [ih k]
theorem all_eq_of : ∀ {ns ms : List Int}, ns.length = ms.length → (List.range ns.length).all (fun j => ns.getD j 0 == ms.getD j 0) = decide (ns = ms) := by
  intro ns ms hl
  by_cases h : ns = ms
  · subst h; simp
  · rw [decide_eq_false h]
    rw [← Bool.not_eq_true, List.all_eq_true]
    intro hall
    apply h
    apply List.ext_getElem hl
    intro i h1 h2
    have := hall i (List.mem_range.mpr h1)
    simpa [h1, h2] using this
section
variable {A : Around} {s : Shared}
theorem eqAt_ints {l b : Addr} {vs us : List Value} {ns ms : List Int} (hl : s.heap.IsList l vs.toArray) (hb : s.heap.IsList b us.toArray) (hn : IntsAre vs ns) (hm : IntsAre us ms) (hu : A.units < cLine) :
    EqAt A s (.ref l) (.ref b) (decide (ns = ms)) := by
  by_cases e : l = b
  · subst e
    obtain ⟨o, ho, _, _, hd⟩ := hl
    obtain ⟨o', ho', _, _, hd'⟩ := hb
    rw [ho] at ho'; cases ho'
    rw [hd] at hd'
    injection hd' with h1 h2
    have : vs = us := by simpa using h1
    subst this
    rw [decide_eq_true (ints_uniq hn hm)]
    exact EqAt.same _
  · refine EqAt.of_refs e ?_
    have l1 : vs.length = ns.length := hn.length
    have l2 : us.length = ms.length := hm.length
    by_cases hz : ns.length = ms.length
    · rw [← all_eq_of hz]
      have := RcAt.lists (A := A) (e := fun j => ns.getD j 0 == ms.getD j 0) hl hb (by simp; omega) hu (fun j h1 h2 => ?_)
      · rw [← l1]; simpa using this
      · have h1' : j < vs.length := by simpa using h1
        have h2' : j < us.length := by simpa using h2
        obtain ⟨t, q, e1⟩ := ints_at hn j h1'
        obtain ⟨t', q', e2⟩ := ints_at hm j h2'
        have x1 : vs.toArray[j] = .int ns[j] t := by simpa using e1
        have x2 : us.toArray[j] = .int ms[j] t' := by simpa using e2
        rw [x1, x2]
        simp only [List.getD_eq_getElem?_getD, List.getElem?_eq_getElem q, List.getElem?_eq_getElem q', Option.getD_some]
        exact EqAt.int_int _ _ _ _
    · rw [decide_eq_false (fun e => hz (by rw [e]))]
      exact RcAt.lists_lengths hl hb (by simp; omega) hu
theorem ltR_ints : ∀ (ns ms : List Int) (k i : Nat), min ns.length ms.length - i = k → i ≤ min ns.length ms.length →
    ltR ns.length ms.length (fun j => ns.getD j 0 == ms.getD j 0) (fun j => decide (ns.getD j 0 < ms.getD j 0)) k i = lexLt (ns.drop i) (ms.drop i) := by
  intro ns ms k
  induction k with
  | zero =>
    intro i hk hi
    unfold ltR
    rcases Nat.lt_or_ge ns.length ms.length with h | h
    · have h1 : ns.drop i = [] := List.drop_of_length_le (by omega)
      have h2 : i < ms.length := by omega
      rw [h1, List.drop_eq_getElem_cons h2, decide_eq_true h]; rfl
    · rw [decide_eq_false (by omega)]
      have h2 : ms.drop i = [] := List.drop_of_length_le (by omega)
      rw [h2]
      cases ns.drop i <;> rfl
  | succ k ih =>
    intro i hk hi
    have h1 : i < ns.length := by omega
    have h2 : i < ms.length := by omega
    unfold ltR
    rw [List.drop_eq_getElem_cons h1, List.drop_eq_getElem_cons h2]
    unfold lexLt
    simp only [List.getD_eq_getElem?_getD, List.getElem?_eq_getElem h1, List.getElem?_eq_getElem h2, Option.getD_some, beq_iff_eq]
    split
    · have := ih (i + 1) (by omega) (by omega)
      simp only [List.getD_eq_getElem?_getD] at this
      exact this
    · rfl
theorem ltAt_ints {l b : Addr} {vs us : List Value} {ns ms : List Int} (hl : s.heap.IsList l vs.toArray) (hb : s.heap.IsList b us.toArray) (hn : IntsAre vs ns) (hm : IntsAre us ms) (hu : A.units < cLine) :
    LtAt A s (.ref l) (.ref b) (lexLt ns ms) := by
  have l1 : vs.length = ns.length := hn.length
  have l2 : us.length = ms.length := hm.length
  have key := LtAt.lists (A := A) (e := fun j => ns.getD j 0 == ms.getD j 0) (r := fun j => decide (ns.getD j 0 < ms.getD j 0)) hl hb hu (fun j h1 h2 => ?_) (fun j h1 h2 _ => ?_)
  · have e := ltR_ints ns ms (min ns.length ms.length) 0 (by omega) (by omega)
    simp only [List.drop_zero] at e
    rw [← e, ← l1, ← l2]
    simpa using key
  all_goals
    have h1' : j < vs.length := by simpa using h1
    have h2' : j < us.length := by simpa using h2
    obtain ⟨t, q, e1⟩ := ints_at hn j h1'
    obtain ⟨t', q', e2⟩ := ints_at hm j h2'
    have x1 : vs.toArray[j] = .int ns[j] t := by simpa using e1
    have x2 : us.toArray[j] = .int ms[j] t' := by simpa using e2
    rw [x1, x2]
    simp only [List.getD_eq_getElem?_getD, List.getElem?_eq_getElem q, List.getElem?_eq_getElem q', Option.getD_some]
  · exact EqAt.int_int _ _ _ _
  · exact ltAt_int _ _ _ _
/-- [k, row] < [k', row'] -/
noncomputable def itLt (k : Int) (ns : List Int) (k' : Int) (ms : List Int) : Bool := decide (k < k') || (decide (k = k') && lexLt ns ms)
theorem ltAt_item {a b r r' : Addr} {k k' : Int} {t t' : Tok} {vs us : List Value} {ns ms : List Int} (ha : s.heap.IsList a #[.int k t, .ref r]) (hb : s.heap.IsList b #[.int k' t', .ref r'])
    (hl : s.heap.IsList r vs.toArray) (hl' : s.heap.IsList r' us.toArray) (hn : IntsAre vs ns) (hm : IntsAre us ms) (hu : A.units + 2 < cLine) : LtAt A s (.ref a) (.ref b) (itLt k ns k' ms) := by
  have key := LtAt.lists (A := A) (e := fun j => if j = 0 then k == k' else decide (ns = ms)) (r := fun j => if j = 0 then decide (k < k') else lexLt ns ms) ha hb (by omega) (fun j h1 h2 => ?_) (fun j h1 h2 he => ?_)
  · have e : ltR 2 2 (fun j => if j = 0 then k == k' else decide (ns = ms)) (fun j => if j = 0 then decide (k < k') else lexLt ns ms) 2 0 = itLt k ns k' ms := by
      simp only [ltR, itLt]
      by_cases h1 : k = k'
      · subst h1
        by_cases h2 : ns = ms
        · subst h2; simp [lexLt_irr]
        · simp [h2]
      · simp [h1]
    rw [← e]; exact key
  · have : j = 0 ∨ j = 1 := by simp at h1; omega
    rcases this with rfl | rfl
    · exact EqAt.int_int _ _ _ _
    · exact eqAt_ints hl hl' hn hm (by show A.units + 1 < _; omega)
  · have : j = 0 ∨ j = 1 := by simp at h1; omega
    rcases this with rfl | rfl
    · exact ltAt_int _ _ _ _
    · exact ltAt_ints hl hl' hn hm (by show A.units + 1 < _; omega)
end
end
-- text FT
section
/-! the steps of a call, with side goals that cost nothing -/
variable {w : World} {A : Around} {env : Env} {s : Shared} {E : Value → Shared → Prop}
noncomputable def unstar : Expr → Bool
  | .Starred .. => false
  | _ => true
theorem star_c {e : Expr} {rest : List Expr} {env : Env} (h : unstar e = true) : starEach (e :: rest) env = (false, eval e env) :: starEach rest env := by
  cases e <;> first | rfl | cases h
theorem star_any : ∀ {rest : List Expr} {env : Env} {pos : Pos}, rest.all unstar = true → (backTo pos (starEach rest env)).any (·.1) = false
  | [], _, _, _ => rfl
  | e :: rest, env, pos, h => by
    rw [List.all_cons, Bool.and_eq_true] at h
    rw [star_c h.1]
    have := star_any (env := env) (pos := pos) h.2
    unfold backTo at this ⊢
    simpa using this
theorem star_len : ∀ {rest : List Expr} {env : Env} {pos : Pos}, rest.all unstar = true → (backTo pos (starEach rest env)).all (!·.1) = true := fun {rest env pos} h => by
  have := star_any (env := env) (pos := pos) h
  rw [List.any_eq_false] at this
  rw [List.all_eq_true]
  intro x hx
  have := this x hx
  simpa using this
theorem argsC {e : Expr} {rest : List Expr} {pos : Pos} {Q : List Value → Shared → Prop} (h : wpAny (MM w) A (eval e env) (fun v s₁ => wpAny (MM w) A (spliced (backTo pos (starEach rest env))) (fun vs s₂ => Q (v :: vs) s₂) E s₁) E s) (he : unstar e = true) :
    wpAny (MM w) A (spliced (backTo pos (starEach (e :: rest) env))) Q E s := args_cons h (star_c he)
section
variable {pos : Pos} {e : Expr} {rest : List Expr} {Q : Value → Shared → Prop}
theorem cwT {T : String} (h : wpAny (MM w) A (spliced (backTo pos (starEach (e :: rest) env))) (fun vs s₁ => wpAny (MM w) A (call (.type T) vs) Q E s₁) E s) (he : (e :: rest).all unstar = true) :
    wpAny (MM w) A (callWith pos (.type T) [] (backTo pos (starEach (e :: rest) env)) []) Q E s := by
  rw [List.all_cons, Bool.and_eq_true] at he
  exact callWith_type1 h (star_c he.1) (star_any he.2)
theorem cwB {id : String} (h : wpAny (MM w) A (spliced (backTo pos (starEach (e :: rest) env))) (fun vs s₁ => wpAny (MM w) A (call (.builtin id) vs) Q E s₁) E s) (he : (e :: rest).all unstar = true) :
    wpAny (MM w) A (callWith pos (.builtin id) [] (backTo pos (starEach (e :: rest) env)) []) Q E s := by
  rw [List.all_cons, Bool.and_eq_true] at he
  exact callWith_builtin1 h (star_c he.1) (star_any he.2)
theorem cwM {id : String} {first : List Value} (h : wpAny (MM w) A (spliced (backTo pos (starEach (e :: rest) env))) (fun vs s₁ => wpAny (MM w) A (call (.builtin id) (first ++ vs)) Q E s₁) E s) (he : (e :: rest).all unstar = true) :
    wpAny (MM w) A (callWith pos (.builtin id) first (backTo pos (starEach (e :: rest) env)) []) Q E s := by
  rw [List.all_cons, Bool.and_eq_true] at he
  exact callWith_method1 h (star_c he.1) (star_any he.2)
theorem cwK {f : Value} {first : List Value} (X : (Mine.hd.heap_1 w.params).In s.heap) (hk : keepIn (Mine.hd.heap_1 w.params) f = true) (h : wpAny (MM w) A (spliced (backTo pos (starEach (e :: rest) env))) (fun vs s₁ => (Mine.hd.heap_1 w.params).In s₁.heap ∧ wpAny (MM w) A (call f (first ++ vs)) Q E s₁) E s) (he : (e :: rest).all unstar = true) :
    wpAny (MM w) A (callWith pos f first (backTo pos (starEach (e :: rest) env)) []) Q E s := by
  rw [List.all_cons, Bool.and_eq_true] at he
  exact callWith_K X hk h (star_c he.1) (star_any he.2)
end
theorem callN {x : Str} {px pos : Pos} {args : List Expr} {Q : Value → Shared → Prop} (h : wpAny (MM w) A (eval (.Name x px) env) (fun f s₁ => wpAny (MM w) A (callWith pos f [] (backTo pos (starEach args env)) []) Q E s₁) E s) :
    wpAny (MM w) A (eval (.Call (.Name x px) args [] pos) env) Q E s := Call_ h rfl
noncomputable def notSuper : Expr → Bool
  | .Call (.Name ..) [] [] _ => false
  | _ => true
theorem base_c {o : Expr} {name : Str} {env : Env} {t : Sem Value} (h : notSuper o = true) : attributeBase o name env t = t := by
  unfold attributeBase
  split
  · cases h
  · rfl
theorem methC {o : Expr} {name : Str} {apos pos : Pos} {args : List Expr} {Q : Value → Shared → Prop}
    (h : wpAny (MM w) A (eval o env) (fun ov s₁ => wpAny (MM w) A (getMethod ov name (do return (← importBound o env).getD true)) (fun fx s₂ => wpAny (MM w) A (callWith pos fx.1 fx.2 (backTo pos (starEach args env)) []) Q E s₂) E s₁) E s)
    (hb : notSuper o = true) (hp : (apos.endLine == pos.line) = true) (ha : args.all unstar = true) (hn : decide (args.length < 30) = true) :
    wpAny (MM w) A (eval (.Call (.Attribute o name apos) args [] pos) env) Q E s := by
  refine MethodCall_ h ?_
  have hf : methodCallForm (args.length + ([] : List Keyword).length) (backTo pos (starEach args env)) (backToKw pos (keywordEach [] env)) = true := by
    unfold methodCallForm
    rw [star_len ha, show backToKw pos (keywordEach [] env) = [] from rfl]
    have : decide (args.length < 30) = true := hn
    simpa using this
  show (do
    let ov ← attributeBase o name env (eval o env)
    standAt apos.atName
    methodCall o name apos pos env ov (args.length + ([] : List Keyword).length) (backTo pos (starEach args env)) (backToKw pos (keywordEach [] env))) = _
  rw [base_c hb]
  unfold methodCall
  rw [hf]
  unfold calleeOf methodCallPos
  simp only [hp, Bool.not_true, Bool.false_or, if_true]
  rfl
end
set_option maxHeartbeats 1000000
example (w : World) (h : Heap) : (Mine.hd.heap_1 w.params).In h → PySem.Challenge.rw_of0054_01 = PySem.Challenge.rw_of0054_01 := by
  k_fill
  intro _
  rfl
-- the way into a def of the top: its address, its names
local macro_rules | `(tactic| ktr_call $f:term $b:term) => do
  let i := Lean.mkIdent
  `(tactic| (refine' Sit.defcall (f := $f) (binds := $b) $(i `S) ?ho ?hd ?hb ?hc ?hbi ?hce ?hlo ?hgl ?hbl ?hco ?hge ?hk ?_
             (case ho => k_is)
             (case hd => rfl)
             (case hb => rfl)
             (case hc => k_is)
             (case hbi => exact BindsTo.of_eq rfl)
             (case hce => decide)
             (case hlo => exact locs rfl)
             (case hgl => rfl)
             (case hbl => rfl)
             (case hco => rfl)
             (case hge => rfl)
             (case hk => rfl)
             intro $(i `env) $(i `s) $(i `E) $(i `Fs') $(i `hsc) $(i `hce) $(i `hcd) $(i `hql) $(i `hfr) $(i `S)
             (try dsimp only at $(i `hsc):ident $(i `hce):ident $(i `hcd):ident $(i `hql):ident)))
-- one step
local macro_rules | `(tactic| kc_bool) => do
  let i := Lean.mkIdent
  let S := i `S
  let s := i `s
  let hsc := i `hsc
  let hce := i `hce
  let u ← `(by with_unfolding_all rfl)
  let k ← `(kind_of $hsc $u)
  let r0 := fun (n : Lean.Name) => `(tactic| refine $(i n) ?_)
  let r1 := fun (n : Lean.Name) => `(tactic| refine $(i n) ?_ $u)
  let rs := fun (n : Lean.Name) => `(tactic| (refine $(i n) $S ?_; intro _ $s $S))
  let a0 ← `(tactic| ((fail_if_success (show wpAny _ _ (execs (Stmt.While _ _ _ _ :: _) _) _ _ _)); (fail_if_success (show wpAny _ _ (execs (Stmt.For _ _ _ _ _ :: _) _) _ _ _)); refine wpAny_execs_cons ?_))
  let a1 ← `(tactic| refine Sit.expr $S ?_ $u)
  let a2 ← `(tactic| (refine Sit.st_ $S $k ?_; intro $s $S; (try dsimp only)))
  let a3 ← `(tactic| (refine Sit.ld $S $k (by first | assumption | with_unfolding_all rfl | with_unfolding_all assumption) ?_ $u))
  let a4 ← `(tactic| ((show wpAny _ _ (eval (Expr.Name _ _) _) _ _ _); k_dflt (refine $(i `Sit.ldc) $S $k (by rw [$hce:term]; with_unfolding_all rfl) (Sit.getN $S (by k_mem)) (by assumption) ?_ $u)))
  let a5 ← `(tactic| (refine Sit.gl $S $k (by k_is) ?_ $u))
  let a6 ← `(tactic| (refine Sit.bi $S $k (by k_is) (by boot_fast) ?_ (by decide) $u))
  let a7 ← `(tactic| refine cwK (Sit.X $S) (by k_is) ?_ $u)
  let a8 ← `(tactic| refine And.intro (Sit.X $S) ?_)
  let a9 ← `(tactic| refine methC ?_ $u $u $u $u)
  let b0 ← `(tactic| refine $(i `callWith_K0) (Sit.X $S) (by k_is) ?_)
  let z := #[a0, ← r0 `wpAny_execs_nil, ← r1 `wpAny_Assign_Name, ← r0 `wpAny_BinOp, ← r1 `wpAny_Compare1, ← r1 `wpAny_isTrue_Compare1, ← r0 `wpAny_truthy_bool, ← r0 `wpAny_If, ← r0 `Subscript_, ← r1 `wpAny_Assign_Subscript, a1, ← r0 `wpAny_Return_some, ← r0 `wpAny_Return_none, ← r0 `wpAny_Break, ← r0 `wpAny_Continue, a2, ← rs `Sit.ci, ← rs `Sit.cs, a3, a4, a5, a6, ← r0 `callN, ← r1 `cwT, ← r1 `cwB, a7, ← r1 `argsC, ← r0 `args_nil, a8, a9] ++ (← #[`callWith_method0].mapM r0) ++ (← #[`cwM].mapM r1) ++ (← #[`isTrue_and, `isTrue_and_nil, `isTrue_or, `isTrue_or_nil, `isTrue_not].mapM r0) ++ (← #[`isTrue_plain].mapM r1) ++ (← #[`UnaryOp_, `IfExp_, `Attribute_name].mapM r0) ++ #[b0] ++ (← #[`Constant_none, `Constant_bool, `iteT, `iteF, `Tuple_, `List_, `inOrder_cons, `inOrder_nil, `bindName_, `wpAny_assign_Name].mapM r0) ++ (← #[`Sit.add, `Sit.sub'].mapM rs) ++ (← #[`gt_int, `lt_int, `le_int, `ge_int, `eq_int, `ne_int].mapM r0)
  `(tactic| with_reducible first $[| $z:tactic]*)
-- text SD
section
variable {w : World} {n : Nat} {A : Around} {env : Env} {o₀ : OsState} {Fs J : Know} {m : Loc} {news : Led} {s : Shared} {E : Value → Shared → Prop}
theorem while_then {test : Expr} {body : List Stmt} {pos : Pos} {rest : List Stmt} {Q : Flow → Shared → Prop} (P : Shared → Prop) (I : Nat → Shared → Prop) (k : Nat) (h0 : I k s)
    (turn : ∀ k s E', I k s → wpAny (MM w) A (isTrue test env (eval test env)) (fun b s₂ => if b = true then wpAny (MM w) A (execs body env) (fun f s₃ => match f with
        | .next | .cont => ∃ j, j < k ∧ I j s₃
        | .brk => P s₃
        | .ret v => Q (.ret v) s₃) E' s₂ else P s₂) E' s) (after : ∀ s, P s → wpAny (MM w) A (execs rest env) Q E s) : wpAny (MM w) A (execs (.While test body [] pos :: rest) env) Q E s := by
  refine wpAny_execs_cons (while_ I k h0 fun k s E' hI => wpAny_mono (turn k s E' hI) (fun b s₂ h => ?_) fun _ _ e => e)
  cases b with
  | false => exact after _ h
  | true =>
    simp only [if_true] at h ⊢
    refine wpAny_mono h (fun f s₃ h => ?_) fun _ _ e => e
    cases f <;> first | exact h | exact after _ h
structure It where
  a : Addr
  k : Int
  r : Addr
  ns : List Int
noncomputable def ItIn (J : Know) (it : It) : Prop := ∃ t e vs e', J it.a (lO [.int it.k t, .ref it.r] e) ∧ J it.r (lO vs e') ∧ IntsAre vs it.ns
theorem ItIn.mono {J J' : Know} (h : J.le J') {it : It} (x : ItIn J it) : ItIn J' it := let ⟨t, e, vs, e', a, b, c⟩ := x; ⟨t, e, vs, e', h _ _ a, h _ _ b, c⟩
noncomputable def It.lt (x y : It) : Bool := itLt x.k x.ns y.k y.ns
noncomputable def refs (xs : List It) : List Value := xs.map fun it => .ref it.a
theorem refs_length (xs : List It) : (refs xs).length = xs.length := by simp [refs]
theorem refs_set (xs : List It) (i : Nat) (x : It) : refs (xs.set i x) = (refs xs).set i (.ref x.a) := by simp [refs]
theorem refs_get {xs : List It} {i : Nat} {x : It} (h : xs[i]? = some x) : (refs xs)[i]? = some (.ref x.a) := by simp [refs, h]
theorem Sit.itlt (S : Sit w (n + 1) A env o₀ Fs J m news s) {x y : It} (hx : ItIn J x) (hy : ItIn J y) {Q : Value → Shared → Prop} (h : Q (.bool (x.lt y)) s) : wpAny (MM w) A (compareOp .Lt (.ref x.a) (.ref y.a)) Q E s := by
  obtain ⟨t, e, vs, e', h1, h2, h3⟩ := hx
  obtain ⟨t', f, us, f', g1, g2, g3⟩ := hy
  refine cmp_ofLt (ltAt_item ⟨_, S.get h1, rfl, e, rfl⟩ ⟨_, S.get g1, rfl, f, rfl⟩ ⟨_, S.get h2, rfl, e', rfl⟩ ⟨_, S.get g2, rfl, f', rfl⟩ h3 g3 (by have := S.units; omega) _ _ _ _ h)
noncomputable def sdown (x : It) (xs : List It) (pos : Nat) : List It :=
  if h : pos = 0 then xs.set pos x else
    if x.lt (xs.getD ((pos - 1) / 2) x) then sdown x (xs.set pos (xs.getD ((pos - 1) / 2) x)) ((pos - 1) / 2) else xs.set pos x
termination_by pos
decreasing_by omega
theorem siftdown_spec {l : Addr} {xs : List It} {e : Nat} {pos : Nat} {t0 tp : Tok} {x : It} {Q : Value → Shared → Prop} (S : Sit w (n + 2) A env o₀ Fs J m ((l, lO (refs xs) e) :: news) s) (hJ : ∀ it ∈ xs, ItIn J it)
    (hx : xs[pos]? = some x) (hz : xs.length < 2 ^ 20) (h : ∀ s', Sit w (n + 2) A env o₀ Fs J m ((l, lO (refs (sdown x xs pos)) e) :: news) s' → Q .none s') :
    wpAny (MM w) A (call (.ref 233) [.ref l, .int 0 t0, .int pos tp]) Q E s := by
  have hp : pos < xs.length := by
    rcases Nat.lt_or_ge pos xs.length with h | h
    · exact h
    · rw [List.getElem?_eq_none h] at hx; cases hx
  ktr_call 233 [(Str.ofString "heap", .ref l), (Str.ofString "startpos", .int 0 t0), (Str.ofString "pos", .int pos tp)]
  repeat kc_bool
  refine Sit.item S.hd (Int.natCast_nonneg _) (by omega) (refs_get hx) ?_ (by with_unfolding_all rfl)
  kc_bool
  refine while_then (fun s => ∃ m' xs' p, Sit w (n + 1) (A.deeper env) env o₀ Fs' J m' ((l, lO (refs xs') e) :: news) s ∧ xs'.set p x = sdown x xs pos ∧ p < xs'.length ∧ xs'.length = xs.length ∧
      m' (Str.ofString "heap") = some (.ref l) ∧ (∃ t, m' (Str.ofString "pos") = some (.int p t)) ∧ m' (Str.ofString "newitem") = some (.ref x.a))
    (fun k s => ∃ m' xs', Sit w (n + 1) (A.deeper env) env o₀ Fs' J m' ((l, lO (refs xs') e) :: news) s ∧ sdown x xs' k = sdown x xs pos ∧ k < xs'.length ∧ xs'.length = xs.length ∧ (∀ it ∈ xs', ItIn J it) ∧
      m' (Str.ofString "heap") = some (.ref l) ∧ m' (Str.ofString "startpos") = some (.int 0 t0) ∧ (∃ t, m' (Str.ofString "pos") = some (.int k t)) ∧ m' (Str.ofString "newitem") = some (.ref x.a)) pos
    ⟨_, xs, S, rfl, hp, rfl, hJ, rfl, rfl, ⟨tp, rfl⟩, rfl⟩ ?_ ?_
  · rintro p s E ⟨m', xs', S, hd, hp', hl, hJ', h1, h2, ⟨t3, h3⟩, h4⟩
    repeat kc_bool
    by_cases hp0 : p = 0
    · subst hp0
      rw [if_neg (by simp)]
      refine ⟨m', xs', 0, S, ?_, hp', hl, h1, ⟨t3, h3⟩, h4⟩
      rw [← hd, sdown, dif_pos rfl]
    · rw [if_pos (by simp; omega)]
      have ep : ((p : Int) - 1).fdiv (2 ^ (1 : Int).toNat) = (((p - 1) / 2 : Nat) : Int) := by
        show ((p : Int) - 1).fdiv 2 = _
        rw [Int.fdiv_eq_ediv_of_nonneg _ (by decide)]; omega
      obtain ⟨y, hy⟩ : ∃ y, xs'[(p - 1) / 2]? = some y := ⟨_, List.getElem?_eq_getElem (by omega)⟩
      have hyD : xs'.getD ((p - 1) / 2) x = y := by simp [List.getD_eq_getElem?_getD, hy]
      have hyJ : ItIn J y := hJ' y (List.mem_of_getElem? hy)
      repeat kc_bool
      refine S.shr (by decide) ?_
      intro t5 s S
      rw [ep]
      repeat kc_bool
      refine Sit.item S.hd (Int.natCast_nonneg _) (by omega) (refs_get hy) ?_ (by with_unfolding_all rfl)
      repeat kc_bool
      refine S.itlt (hJ x (List.mem_of_getElem? hx)) hyJ ?_
      kc_bool
      by_cases hlt : x.lt y = true
      · rw [if_pos hlt]
        repeat kc_bool
        refine S.setItem (Int.natCast_nonneg _) (by omega) (by rw [refs_length]; omega) ?_
        intro s S
        (try dsimp only)
        repeat kc_bool
        (try dsimp only)
        rw [Int.toNat_natCast, ← refs_set] at S
        refine ⟨(p - 1) / 2, by omega, _, _, S, ?_, by rw [List.length_set]; omega, by rw [List.length_set]; exact hl, ?_, h1, h2, ⟨t5, rfl⟩, h4⟩
        · rw [← hd]
          conv => rhs; rw [sdown]
          rw [dif_neg hp0, hyD, if_pos hlt]
        · intro it hit
          rcases List.mem_or_eq_of_mem_set hit with h | rfl
          · exact hJ' it h
          · exact hyJ
      · rw [if_neg hlt]
        repeat kc_bool
        (try dsimp only)
        repeat kc_bool
        (try dsimp only)
        refine ⟨_, xs', p, S, ?_, hp', hl, h1, ⟨t3, h3⟩, h4⟩
        rw [← hd]
        conv => rhs; rw [sdown]
        rw [dif_neg hp0, hyD, if_neg hlt]
  · rintro s ⟨m', xs', p, S, hd, hp', hl, h1, ⟨t3, h3⟩, h4⟩
    repeat kc_bool
    refine S.setItem (Int.natCast_nonneg _) (by omega) (by rw [refs_length]; omega) ?_
    intro s S
    (try dsimp only)
    kc_bool
    rw [Int.toNat_natCast, ← refs_set, hd] at S
    exact ⟨_, _, _, S, fun S => h _ S⟩
end
-- text SU
section
variable {w : World} {n : Nat} {A : Around} {env : Env} {o₀ : OsState} {Fs J : Know} {m : Loc} {news : Led} {s : Shared} {E : Value → Shared → Prop}
theorem then_ {st : Stmt} {rest : List Stmt} {Q : Flow → Shared → Prop} (P : Shared → Prop) (h1 : wpAny (MM w) A (exec st env) (fun f s' => f = .next ∧ P s') E s) (h2 : ∀ s, P s → wpAny (MM w) A (execs rest env) Q E s) :
    wpAny (MM w) A (execs (st :: rest) env) Q E s :=
  wpAny_execs_cons (wpAny_mono h1 (fun f s' h => by obtain ⟨rfl, hp⟩ := h; exact h2 _ hp) fun _ _ e => e)
noncomputable def supC (x : It) (xs : List It) (pos : Nat) : Nat := if 2 * pos + 1 + 1 < xs.length ∧ (xs.getD (2 * pos + 1) x).lt (xs.getD (2 * pos + 1 + 1) x) = false then 2 * pos + 1 + 1 else 2 * pos + 1
theorem supC_lt {x : It} {xs : List It} {pos : Nat} (h : 2 * pos + 1 < xs.length) : supC x xs pos < xs.length ∧ pos < supC x xs pos := by
  unfold supC
  split
  · rename_i h; exact ⟨h.1, by omega⟩
  · exact ⟨h, by omega⟩
noncomputable def sup (x : It) (xs : List It) (pos : Nat) : List It :=
  if h : 2 * pos + 1 < xs.length then sup x (xs.set pos (xs.getD (supC x xs pos) x)) (supC x xs pos) else sdown x (xs.set pos x) pos
termination_by xs.length - pos
decreasing_by
  have := supC_lt (x := x) h
  simp only [List.length_set]
  omega
theorem siftup_spec {l : Addr} {xs : List It} {e : Nat} {t0 : Tok} {x : It} {Q : Value → Shared → Prop} (S : Sit w (n + 3) A env o₀ Fs J m ((l, lO (refs xs) e) :: news) s) (hJ : ∀ it ∈ xs, ItIn J it)
    (hx : xs[0]? = some x) (hz : xs.length < 2 ^ 20) (h : ∀ s', Sit w (n + 3) A env o₀ Fs J m ((l, lO (refs (sup x xs 0)) e) :: news) s' → Q .none s') :
    wpAny (MM w) A (call (.ref 240) [.ref l, .int 0 t0]) Q E s := by
  have hp : 0 < xs.length := by
    rcases Nat.lt_or_ge 0 xs.length with h | h
    · exact h
    · rw [List.getElem?_eq_none h] at hx; cases hx
  ktr_call 240 [(Str.ofString "heap", .ref l), (Str.ofString "pos", .int 0 t0)]
  repeat kc_bool
  refine S.lenL S.hd (by rw [refs_length]; omega) ?_
  intro t1 s S
  rw [refs_length]
  repeat kc_bool
  refine Sit.item S.hd (by decide) (by decide) (refs_get hx) ?_ (by with_unfolding_all rfl)
  repeat kc_bool
  refine S.mul (by mul_fits) ?_
  intro t2 s S
  repeat kc_bool
  rename_i t3
  refine while_then (fun s => ∃ m' xs' p, Sit w (n + 2) (A.deeper env) env o₀ Fs' J m' ((l, lO (refs xs') e) :: news) s ∧ sdown x (xs'.set p x) p = sup x xs 0 ∧ p < xs'.length ∧ xs'.length = xs.length ∧ (∀ it ∈ xs', ItIn J it) ∧
      m' (Str.ofString "heap") = some (.ref l) ∧ m' (Str.ofString "startpos") = some (.int 0 t0) ∧ (∃ t, m' (Str.ofString "pos") = some (.int p t)) ∧ m' (Str.ofString "newitem") = some (.ref x.a))
    (fun k s => ∃ m' xs' p, Sit w (n + 2) (A.deeper env) env o₀ Fs' J m' ((l, lO (refs xs') e) :: news) s ∧ k = xs.length - p ∧ sup x xs' p = sup x xs 0 ∧ p < xs'.length ∧ xs'.length = xs.length ∧ (∀ it ∈ xs', ItIn J it) ∧
      m' (Str.ofString "heap") = some (.ref l) ∧ m' (Str.ofString "startpos") = some (.int 0 t0) ∧ (∃ t, m' (Str.ofString "pos") = some (.int p t)) ∧ m' (Str.ofString "newitem") = some (.ref x.a) ∧
      (∃ t, m' (Str.ofString "endpos") = some (.int xs.length t)) ∧ (∃ t, m' (Str.ofString "childpos") = some (.int (2 * p + 1 : Nat) t))) xs.length
    ⟨_, xs, 0, S, rfl, rfl, hp, rfl, hJ, rfl, rfl, ⟨t0, rfl⟩, rfl, ⟨_, rfl⟩, ⟨_, rfl⟩⟩ ?_ ?_
  · rintro k s E ⟨m', xs', p, S, hk, hd, hp', hl, hJ', h1, h2, ⟨t3, h3⟩, h4, ⟨t5, h5⟩, ⟨t6, h6⟩⟩
    repeat kc_bool
    by_cases hc : 2 * p + 1 < xs.length
    · rw [if_pos (by simp; omega)]
      obtain ⟨hc1, hc2⟩ := supC_lt (x := x) (xs := xs') (pos := p) (by omega)
      obtain ⟨y, hy⟩ : ∃ y, xs'[2 * p + 1]? = some y := ⟨_, List.getElem?_eq_getElem (by omega)⟩
      obtain ⟨z, hzz⟩ : ∃ z, xs'[supC x xs' p]? = some z := ⟨_, List.getElem?_eq_getElem hc1⟩
      iterate 7 kc_bool
      refine then_ (fun s => ∃ m', Sit w (n + 2) (A.deeper env) env o₀ Fs' J m' ((l, lO (refs xs') e) :: news) s ∧ m' (Str.ofString "heap") = some (.ref l) ∧ m' (Str.ofString "startpos") = some (.int 0 t0) ∧ m' (Str.ofString "pos") = some (.int p t3) ∧
        m' (Str.ofString "newitem") = some (.ref x.a) ∧ m' (Str.ofString "endpos") = some (.int xs.length t5) ∧ (∃ t, m' (Str.ofString "childpos") = some (.int (supC x xs' p) t))) ?_ ?_
      · repeat kc_bool
        by_cases hr : 2 * p + 1 + 1 < xs'.length
        · obtain ⟨y', hy'⟩ : ∃ y, xs'[2 * p + 1 + 1]? = some y := ⟨_, List.getElem?_eq_getElem (by omega)⟩
          rw [if_pos (by simp; omega)]
          repeat kc_bool
          refine Sit.item S.hd (Int.natCast_nonneg _) (by omega) (refs_get hy) ?_ (by with_unfolding_all rfl)
          repeat kc_bool
          refine Sit.item S.hd (by omega) (by omega) (refs_get (i := (2 * p + 1 + 1)) hy') ?_ (by with_unfolding_all rfl)
          refine S.itlt (hJ' y (List.mem_of_getElem? hy)) (hJ' y' (List.mem_of_getElem? hy')) ?_
          have e1 : xs'.getD (2 * p + 1) x = y := by simp [List.getD_eq_getElem?_getD, hy]
          have e2 : xs'.getD (2 * p + 1 + 1) x = y' := by simp [List.getD_eq_getElem?_getD, hy']
          repeat kc_bool
          by_cases hlt : y.lt y' = true
          · rw [if_neg (by simp [hlt])]
            rw [if_neg (by decide)]
            repeat kc_bool
            refine ⟨rfl, _, S, h1, h2, h3, h4, h5, ⟨t6, ?_⟩⟩
            have : supC x xs' p = 2 * p + 1 := by unfold supC; rw [e1, e2, hlt]; simp
            rw [this]; exact h6
          · rw [if_pos (by simp [hlt])]
            repeat kc_bool
            rw [if_pos rfl]
            repeat kc_bool
            have : supC x xs' p = 2 * p + 1 + 1 := by unfold supC; rw [e1, e2, if_pos ⟨hr, by simpa using hlt⟩]
            rw [this]
            exact ⟨rfl, _, S, h1, h2, h3, h4, h5, ⟨_, rfl⟩⟩
        · rw [if_neg (by simp; omega)]
          rw [if_neg (by decide)]
          repeat kc_bool
          refine ⟨rfl, _, S, h1, h2, h3, h4, h5, ⟨t6, ?_⟩⟩
          have : supC x xs' p = 2 * p + 1 := by unfold supC; rw [if_neg (by omega)]
          rw [this]; exact h6
      · rintro s ⟨m', S, h1, h2, h3, h4, h5, ⟨t6, h6⟩⟩
        repeat kc_bool
        refine Sit.item S.hd (Int.natCast_nonneg _) (by omega) (refs_get hzz) ?_ (by with_unfolding_all rfl)
        repeat kc_bool
        refine S.setItem (Int.natCast_nonneg _) (by omega) (by rw [refs_length]; omega) ?_
        intro s S
        (try dsimp only)
        repeat kc_bool
        refine S.mul (by mul_fits) ?_
        intro t2 s S
        repeat kc_bool
        rw [Int.toNat_natCast, ← refs_set] at S
        refine ⟨xs.length - supC x xs' p, by omega, _, _, supC x xs' p, S, rfl, ?_, by rw [List.length_set]; omega, by rw [List.length_set]; exact hl, ?_, h1, h2, ⟨t6, rfl⟩, h4, ⟨t5, h5⟩, ⟨_, rfl⟩⟩
        · rw [← hd]
          conv => rhs; rw [sup]
          rw [dif_pos (by omega)]
          have : xs'.getD (supC x xs' p) x = z := by simp [List.getD_eq_getElem?_getD, hzz]
          rw [this]
        · intro it hit
          rcases List.mem_or_eq_of_mem_set hit with h | rfl
          · exact hJ' it h
          · exact hJ' _ (List.mem_of_getElem? hzz)
    · rw [if_neg (by simp; omega)]
      refine ⟨m', xs', p, S, ?_, hp', hl, hJ', h1, h2, ⟨t3, h3⟩, h4⟩
      rw [← hd]
      conv => rhs; rw [sup]
      rw [dif_neg (by omega)]
  · rintro s ⟨m', xs', p, S, hd, hp', hl, hJ', h1, h2, ⟨t3, h3⟩, h4⟩
    repeat kc_bool
    refine S.setItem (Int.natCast_nonneg _) (by omega) (by rw [refs_length]; omega) ?_
    intro s S
    (try dsimp only)
    repeat kc_bool
    rw [Int.toNat_natCast, ← refs_set] at S
    refine siftdown_spec (x := x) S (fun it hit => ?_) ?_ (by rw [List.length_set]; omega) ?_
    · rcases List.mem_or_eq_of_mem_set hit with h | rfl
      · exact hJ' it h
      · exact hJ _ (List.mem_of_getElem? hx)
    · simp [hp']
    · intro s S
      repeat kc_bool
      rw [hd] at S
      exact ⟨_, _, _, S, fun S => h _ S⟩
end
-- text HP
section
variable {w : World} {n : Nat} {A : Around} {env : Env} {o₀ : OsState} {Fs J : Know} {m : Loc} {news : Led} {s : Shared} {E : Value → Shared → Prop}
theorem mList {l : Addr} {vs : List Value} {e : Nat} {name : Str} {id : String} {pl : Sem Bool} {Q : Value × List Value → Shared → Prop} (ho : s.heap.get? l = some (lO vs e)) (slot : Slot "list" name id)
    (hty : typeOf (.builtin id) = pure (.type "method_descriptor")) (h : Q (.builtin id, [.ref l]) s) : wpAny (MM w) A (getMethod (.ref l) name pl) Q E s :=
  getMethod_list_of (items := vs.toArray) slot hty ⟨_, ho, rfl, e, rfl⟩ ⟨_, ho, rfl⟩ h
theorem refs_append (xs ys : List It) : refs (xs ++ ys) = refs xs ++ refs ys := by simp [refs]
theorem heappush_spec {l : Addr} {xs : List It} {e : Nat} {x : It} {Q : Value → Shared → Prop} (S : Sit w (n + 3) A env o₀ Fs J m ((l, lO (refs xs) e) :: news) s) (hJ : ∀ it ∈ xs, ItIn J it) (hx : ItIn J x) (hz : xs.length + 1 < 2 ^ 20)
    (h : ∀ s', Sit w (n + 3) A env o₀ Fs J m ((l, lO (refs (sdown x (xs ++ [x]) xs.length)) (e + 1)) :: news) s' → Q .none s') :
    wpAny (MM w) A (call (.ref 219) [.ref l, .ref x.a]) Q E s := by
  ktr_call 219 [(Str.ofString "heap", .ref l), (Str.ofString "item", .ref x.a)]
  repeat kc_bool
  refine mList S.hd PySem.F.slot_list_append PySem.F.type_list_append ?_
  repeat kc_bool
  refine S.append (by rw [refs_length, sizeLine_eq]; omega) ?_
  intro s S
  (try dsimp only)
  repeat kc_bool
  refine S.lenL S.hd (by rw [List.length_append, refs_length]; simp; omega) ?_
  intro t1 s S
  repeat kc_bool
  have er : refs xs ++ [Value.ref x.a] = refs (xs ++ [x]) := by rw [refs_append]; rfl
  rw [er] at S ⊢
  have el : (((refs (xs ++ [x])).length : Nat) : Int) - 1 = (xs.length : Nat) := by rw [refs_length]; simp
  rw [el]
  refine siftdown_spec (x := x) S (fun it hit => ?_) (by simp) (by simp; omega) ?_
  · rcases List.mem_append.mp hit with h | h
    · exact hJ it h
    · rw [List.mem_singleton.mp h]; exact hx
  · intro s S
    repeat kc_bool
    exact ⟨_, _, _, S, fun S => h _ S⟩
noncomputable def popd (xs : List It) (y : It) : List It := match xs with
  | [] => []
  | _ :: r => sup y (y :: r) 0
theorem heappop_spec {l : Addr} {xs : List It} {e : Nat} {y : It} {Q : Value → Shared → Prop} (S : Sit w (n + 4) A env o₀ Fs J m ((l, lO (refs (xs ++ [y])) e) :: news) s) (hJ : ∀ it ∈ xs, ItIn J it) (hy : ItIn J y) (hz : xs.length + 1 < 2 ^ 20)
    (h : ∀ s', Sit w (n + 4) A env o₀ Fs J m ((l, lO (refs (popd xs y)) (e + 1)) :: news) s' → Q (.ref (xs.headD y).a) s') :
    wpAny (MM w) A (call (.ref 226) [.ref l]) Q E s := by
  ktr_call 226 [(Str.ofString "heap", .ref l)]
  repeat kc_bool
  refine mList S.hd PySem.F.slot_list_pop PySem.F.type_list_pop ?_
  repeat kc_bool
  have er : refs (xs ++ [y]) = refs xs ++ [Value.ref y.a] := by rw [refs_append]; rfl
  rw [er] at S
  refine S.popLast (by simp [refs_length, sizeLine_eq]; omega) ?_
  intro s S
  repeat kc_bool
  refine S.truthL S.hd (by rw [refs_length]; omega) ?_
  intro s S
  cases xs with
  | nil =>
    rw [if_neg (by simp [refs])]
    repeat kc_bool
    exact ⟨_, _, _, S, fun S => h _ S⟩
  | cons z r =>
    rw [if_pos (by simp [refs])]
    repeat kc_bool
    refine Sit.item S.hd (by decide) (by decide) (refs_get (x := z) rfl) ?_ (by with_unfolding_all rfl)
    repeat kc_bool
    refine S.setItem (by decide) (by decide) (by rw [refs_length]; simp <;> omega) ?_
    intro s S
    (try dsimp only)
    repeat kc_bool
    have e2 : (refs (z :: r)).set (0 : Int).toNat (.ref y.a) = refs (y :: r) := rfl
    rw [e2] at S
    refine siftup_spec (x := y) S (fun it hit => ?_) rfl (by simp at hz ⊢; omega) ?_
    · rcases List.mem_cons.mp hit with rfl | h
      · exact hy
      · exact hJ it (.tail _ h)
    · intro s S
      repeat kc_bool
      exact ⟨_, _, _, S, fun S => h _ S⟩
end
-- text R3
section
variable {w : World} {n : Nat} {A : Around} {env : Env} {o₀ : OsState} {Fs J : Know} {m : Loc} {news : Led} {s : Shared} {E : Value → Shared → Prop}
/-- a thing beside everything that is kept track of -/
noncomputable def Loose (env : Env) (Fs J : Know) (news : Led) (s : Shared) (I : Addr) : Prop :=
  (∃ o, s.heap.get? I = some o) ∧ I ≠ env.locals ∧ I ∉ news.map (·.1) ∧ (∀ o, ¬ J I o) ∧ ∀ o, ¬ Fs I o
theorem Sit.move' (S : Sit w n A env o₀ Fs J m news s) {s' : Shared} {m' : Loc} {news' : Led} (hns : s'.heap.Ns env.locals m')
    (hf : ∀ a o, Fs a o → s'.heap.get? a = some o) (hj : ∀ a o, J a o → s'.heap.get? a = some o)
    (hnw : ∀ p ∈ news', s'.heap.get? p.1 = some p.2) (hadr : ∀ p ∈ news', p.1 ∈ news.map (·.1) ∨ s.heap.get? p.1 = none) (hnd : (news'.map (·.1)).Nodup)
    (hos : s'.os = s.os) (hbare : AllBare s'.gens) : Sit w n A env o₀ Fs J m' news' s' := by
  have off : ∀ a o, s.heap.get? a = some o → a ∉ news.map (·.1) → a ∉ news'.map (·.1) := by
    intro a o e hn hm
    obtain ⟨p, hp, rfl⟩ := List.mem_map.mp hm
    rcases hadr p hp with h | h
    · exact hn h
    · rw [h] at e; cases e
  obtain ⟨oL, _, _, hL, _⟩ := S.ns
  refine ⟨hns, fun a o h => ?_, fun a o h => ?_, fun p hp => ⟨hnw p hp, ?_⟩, hnd, S.st, S.fr, S.hk, S.hg, S.hb, S.hh, S.room, S.units, hos.trans S.os, hbare⟩
  · obtain ⟨h1, h2, h3⟩ := S.lf a o h
    exact ⟨hf a o h, h2, off a o h1 h3⟩
  · obtain ⟨h1, h2, h3, h4⟩ := S.lj a o h
    exact ⟨hj a o h, h2, off a o h1 h3, h4⟩
  · rcases hadr p hp with h | h
    · obtain ⟨q, hq, e⟩ := List.mem_map.mp h
      rw [← e]; exact (S.nw q hq).2
    · intro e; rw [e, hL] at h; cases h
/-- only a loose thing turns -/
theorem Sit.aside (S : Sit w n A env o₀ Fs J m news s) {I : Addr} (hI : Loose env Fs J news s I) {s' : Shared} (hk : ∀ b o, b ≠ I → s.heap.get? b = some o → s'.heap.get? b = some o)
    (hos : s'.os = s.os) (hb : AllBare s'.gens) : Sit w n A env o₀ Fs J m news s' := by
  refine S.move' ?_ (fun a o h => hk a o (fun e => hI.2.2.2.2 o (e ▸ h)) (S.lf a o h).1) (fun a o h => hk a o (fun e => hI.2.2.2.1 o (e ▸ h)) (S.lj a o h).1) (fun p hp => hk _ _ (fun e => hI.2.2.1 (by rw [← e]; exact List.mem_map_of_mem hp)) (S.nw p hp).1)
    (fun p hp => .inl (List.mem_map_of_mem hp)) S.nd hos hb
  exact S.ns.at' fun o e => hk _ o (Ne.symm hI.2.1) e
theorem Sit.loosen {a : Addr} {o : Obj} (S : Sit w n A env o₀ Fs J m ((a, o) :: news) s) : Sit w n A env o₀ Fs J m news s ∧ Loose env Fs J news s a :=
  ⟨S.drop, ⟨o, S.hd⟩, (S.nw _ (.head _)).2, (List.nodup_cons.mp S.nd).1, fun x h => (S.lj a x h).2.2.1 (.head _), fun x h => (S.lf a x h).2.2 (.head _)⟩
theorem Loose.step {I : Addr} (hI : Loose env Fs J news s I) {s' : Shared} (h : ∃ o, s'.heap.get? I = some o) : Loose env Fs J news s' I := ⟨h, hI.2⟩
theorem Sit.guard (S : Sit w n A env o₀ Fs J m news s) {I : Addr} {o : Obj} (hI : Loose env Fs J news s I) (ho : s.heap.get? I = some o) : Sit w n A env o₀ (Fs.add I o) J m news s := by
  refine ⟨S.ns, fun a x h => ?_, fun a x h => ?_, S.nw, S.nd, S.st, S.fr, S.hk, S.hg, S.hb, S.hh, S.room, S.units, S.os, S.bare⟩
  · rcases h with h | ⟨rfl, rfl⟩
    · exact S.lf a x h
    · exact ⟨ho, hI.2.1, hI.2.2.1⟩
  · obtain ⟨h1, h2, h3, h4⟩ := S.lj a x h
    refine ⟨h1, h2, h3, fun y hy => ?_⟩
    rcases hy with hy | ⟨rfl, rfl⟩
    · exact h4 y hy
    · exact hI.2.2.2.1 _ h
theorem Sit.unguard {I : Addr} {o : Obj} (S : Sit w n A env o₀ (Fs.add I o) J m news s) (hF : ∀ x, ¬ Fs I x) : Sit w n A env o₀ Fs J m news s ∧ Loose env Fs J news s I ∧ s.heap.get? I = some o := by
  have hI := S.lf I o (.inr ⟨rfl, rfl⟩)
  refine ⟨⟨S.ns, fun a x h => S.lf a x (.inl h), fun a x h => ?_, S.nw, S.nd, S.st, S.fr, S.hk, S.hg, S.hb, S.hh, S.room, S.units, S.os, S.bare⟩, ⟨⟨o, hI.1⟩, hI.2.1, hI.2.2, fun x h => (S.lj I x h).2.2.2 o (.inr ⟨rfl, rfl⟩), hF⟩, hI.1⟩
  obtain ⟨h1, h2, h3, h4⟩ := S.lj a x h
  exact ⟨h1, h2, h3, fun y hy => h4 y (.inl hy)⟩
abbrev prg : Program := PySem.Challenge.rw_of0054_01.row.prog
section
variable {I : Addr} {fp wr : List Addr} {N : Nat} {P : Nat → Value → Prop} {St : Nat → Heap → Prop} {k : Nat}
theorem Sit.next (S : Sit w n A env o₀ Fs J m news s) (W : Walks prg w A I fp wr N P St) (hwr : ∀ b ∈ wr, b = I) (hI : Loose env Fs J news s I) (hin : ∀ k h, St k h → ∃ o, h.get? I = some o) (hst : St k s.heap) (hk : k < N) {Q : Option Value → Shared → Prop}
    (h : ∀ v s', P k v → Sit w n A env o₀ Fs J m news s' → Loose env Fs J news s' I → St (k + 1) s'.heap → Q (some v) s') : wpAny (MM w) A (pyNext (.ref I)) Q E s :=
  W.item k s Q E hk hst fun v h' tk hP hst' hkeep =>
    h v _ hP (S.aside (s' := { s with heap := h', toks := tk }) hI (fun b o hb e => hkeep b o (fun hm => hb (hwr b hm)) e) rfl S.bare) (hI.step (hin _ _ hst')) hst'
theorem Sit.nextEnd (S : Sit w n A env o₀ Fs J m news s) (W : Walks prg w A I fp wr N P St) (hwr : ∀ b ∈ wr, b = I) (hI : Loose env Fs J news s I) (hst : St N s.heap) {Q : Option Value → Shared → Prop}
    (h : ∀ s', Sit w n A env o₀ Fs J m news s' → Q none s') : wpAny (MM w) A (pyNext (.ref I)) Q E s :=
  W.done s Q E hst fun h' tk hkeep => h _ (S.aside (s' := { s with heap := h', toks := tk }) hI (fun b o hb e => hkeep b o (fun hm => hb (hwr b hm)) e) rfl S.bare)
theorem Sit.for_ {x : Str} {px : Pos} {body rest : List Stmt} {Q : Flow → Shared → Prop} (S : Sit w n A env o₀ Fs J m news s) (hx : env.kindOf x = some .local) (W : Walks prg w A I fp wr N P St) (hwr : ∀ b ∈ wr, b = I)
    (hfp : ∀ b ∈ fp, b = I ∨ ∃ o, J b o) (hin : ∀ k h, St k h → ∃ o, h.get? I = some o) (hI : Loose env Fs J news s I) (hst : St 0 s.heap) (Inv : Nat → Know → Loc → Led → Prop) (h0 : Inv 0 J m news)
    (hbody : ∀ k v J' m' news' Fs' s' E', k < N → P k v → J.le J' → Inv k J' m' news' → Sit w n A env o₀ Fs' J' (upd m' x v) news' s' →
      wpAny (MM w) A (execs body env) (fun f s'' => (f = .next ∨ f = .cont) ∧ ∃ J'' m'' news'', J'.le J'' ∧ Inv (k + 1) J'' m'' news'' ∧ Sit w n A env o₀ Fs' J'' m'' news'' s'') E' s')
    (after : ∀ J' m' news' s', J.le J' → Inv N J' m' news' → Sit w n A env o₀ Fs J' m' news' s' → wpAny (MM w) A (execs rest env) Q E s') :
    codeAny (MM w) A (.forLoop (.Name x px) (.ref I) body [] env) (fun r s' => match r with
      | .ok f => (match f with | .next => wpAny (MM w) A (execs rest env) Q E s' | f => Q f s')
      | .error e => cameBackBy (MM w) A env E e s') s := by
  refine codeAny_forLoop (fun j s => ∃ k J' m' news', j = N - k ∧ k ≤ N ∧ J.le J' ∧ Inv k J' m' news' ∧ Sit w n A env o₀ Fs J' m' news' s ∧ Loose env Fs J' news' s I ∧ St k s.heap) ?_ N ⟨0, J, m, news, rfl, Nat.zero_le _, .refl _, h0, S, hI, hst⟩ (fun _ => rfl)
  rintro j s ⟨k, J', m', news', rfl, hkN, hle, hinv, S, hI, hst⟩
  rcases Nat.lt_or_ge k N with hk | hk
  · refine S.next W hwr hI hin hst hk fun v s hP S hI hst => ?_
    dsimp only
    obtain ⟨oI, hoI⟩ := hI.1
    refine wpAny_assign_Name ((S.guard hI hoI).st_ hx fun s₂ S₂ => ?_)
    refine wpAny_mono (hbody k v J' m' news' _ s₂ _ hk hP hle hinv S₂) (fun f s₃ h => ?_) fun _ _ e => e
    obtain ⟨hf, J'', m'', news'', hle', hinv', G⟩ := h
    obtain ⟨S₃, hI₃, hget⟩ := G.unguard hI.2.2.2.2
    have st : St (k + 1) s₃.heap := W.frame _ _ _ hst fun b hb o e => by
      rcases hfp b hb with rfl | ⟨o', ho'⟩
      · rw [hoI] at e; cases e; exact hget
      · have e1 := S.get (hle _ _ ho')
        rw [e1] at e; cases e
        exact S₃.get (hle' _ _ (hle _ _ ho'))
    have fin : ∃ m_1, m_1 < N - k ∧ ∃ k J' m' news', m_1 = N - k ∧ k ≤ N ∧ J.le J' ∧ Inv k J' m' news' ∧ Sit w n A env o₀ Fs J' m' news' s₃ ∧ Loose env Fs J' news' s₃ I ∧ St k s₃.heap :=
      ⟨N - (k + 1), by omega, k + 1, J'', m'', news'', rfl, hk, hle.trans hle', hinv', S₃, hI₃, st⟩
    rcases hf with rfl | rfl <;> exact fin
  · obtain rfl : k = N := by omega
    refine S.nextEnd W hwr hI hst fun s S => wpAny_execs_nil (after J' m' news' s hle hinv S)
/-- a for over a list that stays -/
theorem Sit.forList {x : Str} {px : Pos} {body rest : List Stmt} {Q : Flow → Shared → Prop} {l : Addr} {vs : List Value} {e : Nat} (S : Sit w n A env o₀ Fs J m news s) (hx : env.kindOf x = some .local) (hl : J l (lO vs e)) (Inv : Nat → Know → Loc → Led → Prop)
    (h0 : Inv 0 J m news)
    (hbody : ∀ k v J' m' news' Fs' s' E', vs[k]? = some v → J.le J' → Inv k J' m' news' → Sit w n A env o₀ Fs' J' (upd m' x v) news' s' →
      wpAny (MM w) A (execs body env) (fun f s'' => (f = .next ∨ f = .cont) ∧ ∃ J'' m'' news'', J'.le J'' ∧ Inv (k + 1) J'' m'' news'' ∧ Sit w n A env o₀ Fs' J'' m'' news'' s'') E' s')
    (after : ∀ J' m' news' s', J.le J' → Inv vs.length J' m' news' → Sit w n A env o₀ Fs J' m' news' s' → wpAny (MM w) A (execs rest env) Q E s') :
    wpAny (MM w) A (pyIter (.ref l)) (fun it s₂ => codeAny (MM w) A (.forLoop (.Name x px) it body [] env) (fun r s' => match r with
      | .ok f => (match f with | .next => wpAny (MM w) A (execs rest env) Q E s' | f => Q f s')
      | .error e => cameBackBy (MM w) A env E e s') s₂) E s := by
  refine wpAny_pyIter_list (items := vs.toArray) ⟨_, S.get hl, rfl, e, rfl⟩ ?_
  have S1 := S.push (k := s.toks) { cls := .type "list_iterator", data := .fields #[.ref l, .int 0 0] }
  have hne : l ≠ s.heap.objs.size := Nat.ne_of_lt (Heap.lt_size (S.get hl))
  obtain ⟨S2, hI⟩ := S1.loosen
  have W : Walks prg w A s.heap.objs.size [s.heap.objs.size, l] [s.heap.objs.size] vs.length (fun i v => vs.toArray[i]? = some v) (fun i h => h.IsListIter s.heap.objs.size l i ∧ h.IsList l vs.toArray) := by
    have := Walks.list (prog := prg) (w := w) S.hh s.heap.objs.size l hne vs.toArray
    rwa [List.size_toArray] at this
  refine S2.for_ hx W (by simp) (fun b hb => ?_) (fun k h st => ?_) hI ⟨⟨_, S1.hd, rfl, rfl⟩, ⟨_, S2.get hl, rfl, e, rfl⟩⟩ Inv h0
    (fun k v J' m' news' Fs' s' E' hk hP hle hinv S => hbody k v J' m' news' Fs' s' E' (by simpa using hP) hle hinv S) after
  · rcases List.mem_cons.mp hb with rfl | hb
    · exact .inl rfl
    · rw [List.mem_singleton.mp hb]; exact .inr ⟨_, hl⟩
  · obtain ⟨⟨o, ho, _⟩, _⟩ := st
    exact ⟨o, ho⟩
end
end
-- text R4
section
variable {w : World} {n : Nat} {A : Around} {env : Env} {o₀ : OsState} {Fs J : Know} {m : Loc} {news : Led} {s : Shared} {E : Value → Shared → Prop}
theorem cells_led {h : Heap} {L : Addr} {cm : Str → Option Value} : ∀ {cs : List (Str × Addr)}, (∀ n c, (n, c) ∈ cs → h.IsCell c (cm n) ∧ L < c) → ∃ cells : Led, (∀ p ∈ cells, h.get? p.1 = some p.2) ∧ CellsAre cm cs cells ∧ cells.map (·.1) = cs.map (·.2)
  | [], _ => ⟨[], fun _ h => (nomatch h), .nil, rfl⟩
  | (n, c) :: cs, hx => by
    obtain ⟨cells, N, X, e⟩ := cells_led (cs := cs) fun n' c' hm => hx n' c' (List.mem_cons_of_mem _ hm)
    obtain ⟨⟨o, ho, hd⟩, hLc⟩ := hx n c List.mem_cons_self
    refine ⟨(c, o) :: cells, fun p hp => ?_, .cons hd X, by simp [e]⟩
    rcases List.mem_cons.mp hp with rfl | hp
    · exact ho
    · exact N p hp
theorem Sit.defcallC (S : Sit w (n + 1) A env o₀ Fs J m news s) {f : Addr} {args : List Value} {kw : List (Str × Value)} {o : Obj} {fd : FuncData} {body : List Stmt} {binds : List (Str × Value)} {Q : Value → Shared → Prop}
    (ho : (Mine.hd.heap_1 w.params).lookup f = some o) (hd : o.data = .func fd) (hbody : fd.body = .stmts body) (hcl : fd.closure = []) (hcode : codeIn (Mine.hd.heap_1 w.params) fd.code fd.qualname = true) (hbind : BindsTo s fd ⟨args, kw⟩ binds)
    (hkind : (binds.all fun y => fd.scope.names.lookup y.1 == some .local || fd.scope.names.lookup y.1 == some .cell) = true) (hnd : ((cellsFrom 0 fd.scope.names []).map (·.1)).Nodup) (hgl : fd.globals = mainGlobals) (hbl : fd.builtins = builtinsNs)
    (hco : fd.scope.isCoroutine = false) (hgen : fd.scope.isGenerator = false) (hk : fd.scope.kind = .function)
    (h : ∀ env' s₁ E' Fs' L cells, env'.scope = fd.scope → env'.cells = cellsFrom (L + 1) fd.scope.names [] → env'.code = fd.code → env'.qual = fd.qualname ++ ".<locals>." → (∃ fs, (A.deeper env').frames = some (env' :: fs)) →
      CellsAre (bindC (fun x => fd.scope.names.lookup x) binds fun _ => none) (cellsFrom (L + 1) fd.scope.names []) cells →
      Sit w n (A.deeper env') env' o₀ Fs' J (bindL (fun x => fd.scope.names.lookup x) binds fun _ => none) (cells ++ news) s₁ →
      wpAny (MM w) (A.deeper env') (execs body env') (Back w n A env env' o₀ Fs Fs' m Q) E' s₁) :
    wpAny (MM w) A (PySem.call (.ref f) args kw) Q E s := by
  have X := S.X
  refine wpAny_call (codeAny_call_function (by have := S.room; omega) (X _ _ ho) hd hco hgen hbody (codeRec_of X hcode) (hbind _ _ _ _ ?_))
  rw [hcl]
  refine wpAny_newFunctionEnv_cells hk (kindsX hkind _) fun env' he s₁ x => ?_
  obtain ⟨h₁, tk, rfl, hk₁⟩ := x.done
  have hns := x.toInCall.ns
  have hloc : env'.locals = s.heap.objs.size := by rw [he]; rfl
  have hscope : env'.scope = fd.scope := by rw [he]; rfl
  have hcells : env'.cells = cellsFrom (s.heap.objs.size + 1) fd.scope.names [] := by rw [he]; rfl
  have hko : env'.kindOf = fun x => fd.scope.names.lookup x := by funext y; unfold Env.kindOf; rw [hscope]
  have hnames : (cellsFrom (s.heap.objs.size + 1) fd.scope.names []).map (·.1) = (cellsFrom 0 fd.scope.names []).map (·.1) := cellsFrom_names fd.scope.names (s.heap.objs.size + 1) 0 [] [] rfl
  obtain ⟨cells, hcg, hca, hce⟩ := cells_led (h := h₁) (L := s.heap.objs.size) (cm := bindC (fun x => fd.scope.names.lookup x) binds fun _ => none) (cs := cellsFrom (s.heap.objs.size + 1) fd.scope.names []) fun n c hm => by
    have h1 := x.cell n c (lookup_of_mem_nodup (by rw [hcells, hnames]; exact hnd) (by rw [hcells]; exact hm))
    have h2 := x.above n c (by rw [hcells]; exact hm)
    rw [hko] at h1
    exact ⟨h1, by rw [← hloc]; exact h2⟩
  have cabove : ∀ a, a ∈ cells.map (·.1) → s.heap.objs.size < a := fun a ha => by
    rw [hce] at ha
    obtain ⟨⟨n, c⟩, hm, rfl⟩ := List.mem_map.mp ha
    have := x.above n c (by rw [hcells]; exact hm)
    rw [hloc] at this; exact this
  have cnd : (cells.map (·.1)).Nodup := by
    rw [hce]
    have := x.apart
    rw [hcells] at this
    exact List.pairwise_map.mpr this
  refine ⟨S.nolimit.keeps hk₁, codeAny_func ?_⟩
  obtain ⟨oL, esL, epL, hL, rL⟩ := S.ns
  have ne : ∀ {a : Addr} {x : Obj}, s.heap.get? a = some x → a ≠ s.heap.objs.size := fun e => Nat.ne_of_lt (Heap.lt_size e)
  have offc : ∀ {a : Addr} {x : Obj}, s.heap.get? a = some x → a ∉ cells.map (·.1) := fun e hm => Nat.lt_asymm (cabove _ hm) (Heap.lt_size e)
  have hLn : env.locals ∉ news.map (·.1) := fun q => by
    obtain ⟨p, hp, e⟩ := List.mem_map.mp q
    exact (S.nw p hp).2 e
  have off : ∀ {a : Addr} {x : Obj}, s.heap.get? a = some x → a ∉ news.map (·.1) → a ∉ (cells ++ news).map (·.1) := fun e hn hm => by
    rw [List.map_append] at hm
    rcases List.mem_append.mp hm with hm | hm
    · exact offc e hm
    · exact hn hm
  have S₁ : Sit w n (A.deeper env') env' o₀ (FsOf Fs env.locals s.heap) J (bindL (fun x => fd.scope.names.lookup x) binds fun _ => none) (cells ++ news) { s with heap := h₁, toks := tk } := by
    refine ⟨by rw [← hko]; exact hns, fun a x e => ?_, fun a x e => ?_, fun p hp => ?_, ?_, S.st, ?_, by rw [hscope]; exact hk, by rw [he]; exact hgl, by rw [he]; exact hbl, S.hh, ?_, ?_, S.os, S.bare⟩
    · rw [hloc]
      rcases e with e | ⟨rfl, e⟩
      · obtain ⟨h1, h2, h3⟩ := S.lf a x e
        exact ⟨hk₁ _ _ h1, ne h1, off h1 h3⟩
      · exact ⟨hk₁ _ _ e, ne e, off e hLn⟩
    · rw [hloc]
      obtain ⟨h1, h2, h3, h4⟩ := S.lj a x e
      refine ⟨hk₁ _ _ h1, ne h1, off h1 h3, fun y q => ?_⟩
      rcases q with q | ⟨q, _⟩
      · exact h4 y q
      · exact h2 q
    · rw [hloc]
      rcases List.mem_append.mp hp with hp | hp
      · exact ⟨hcg p hp, Nat.ne_of_gt (cabove _ (List.mem_map_of_mem hp))⟩
      · exact ⟨hk₁ _ _ (S.nw p hp).1, ne (S.nw p hp).1⟩
    · rw [List.map_append]
      refine List.nodup_append.mpr ⟨cnd, S.nd, fun a ha b hb e => ?_⟩
      subst e
      obtain ⟨p, hp, e2⟩ := List.mem_map.mp hb
      have := (S.nw p hp).1
      rw [e2] at this
      exact offc this ha
    · obtain ⟨fs, hA⟩ := S.fr
      exact ⟨_ :: fs, by show A.frames.map _ = _; rw [hA]; rfl⟩
    · have := S.room; show A.depth + 1 + n < _; omega
    · have := S.units; show A.units + 3 + 16 * n < _; omega
  refine wpAny_mono (h env' _ _ _ s.heap.objs.size cells hscope hcells (by rw [he]; rfl) (by rw [he]; rfl) (let ⟨fs, hA⟩ := S.fr; ⟨fs, by show A.frames.map _ = _; rw [hA]; rfl⟩) hca S₁) (fun fl s' hb => ?_) fun _ _ e => e
  obtain ⟨J', m', news', S', hq⟩ := hb
  suffices hh : Q (retv fl) s' by cases fl <;> exact hh
  refine hq ?_
  have keepL := S'.lf env.locals oL (.inr ⟨rfl, hL⟩)
  refine ⟨⟨oL, esL, epL, keepL.1, rL⟩, fun a x q => ?_, fun a x q => ?_, fun p hp => ⟨(S'.nw p hp).1, fun q => keepL.2.2 (by rw [← q]; exact List.mem_map_of_mem hp)⟩, S'.nd, S'.st, S.fr, S.hk, S.hg, S.hb, S.hh, S.room, S.units, S'.os, S'.bare⟩
  · obtain ⟨h1, h2, h3⟩ := S'.lf a x (.inl q)
    exact ⟨h1, (S.lf a x q).2.1, h3⟩
  · obtain ⟨h1, h2, h3, h4⟩ := S'.lj a x q
    exact ⟨h1, fun z => h4 oL (.inr ⟨z, z ▸ hL⟩), h3, fun y z => h4 y (.inl z)⟩
/-- a cell read, a cell written -/
theorem Sit.ldc (S : Sit w n A env o₀ Fs J m news s) {x : Str} {pos : Pos} {v : Value} {c : Addr} {o : Obj} {Q : Value → Shared → Prop} (hx : env.kindOf x = some .cell) (hc : env.cells.lookup x = some c) (ho : s.heap.get? c = some o) (hd : o.data = .cell (some v)) (h : Q v s)
    (hb : (x == ("__debug__" : Str)) = false := by decide) : wpAny (MM w) A (eval (.Name x pos) env) Q E s := wpAny_Name (wpAny_loadName_cell S.hk hx hc ⟨o, ho, hd⟩ h) hb
theorem Sit.ldf (S : Sit w n A env o₀ Fs J m news s) {x : Str} {pos : Pos} {v : Value} {c : Addr} {o : Obj} {Q : Value → Shared → Prop} (hx : env.kindOf x = some .free) (hc : env.cells.lookup x = some c) (ho : s.heap.get? c = some o) (hd : o.data = .cell (some v)) (h : Q v s)
    (hb : (x == ("__debug__" : Str)) = false := by decide) (hn : (x == ("__classdict__" : Str)) = false := by decide) : wpAny (MM w) A (eval (.Name x pos) env) Q E s := wpAny_Name (wpAny_loadName_free S.hk hx hc ⟨o, ho, hd⟩ h hn) hb
theorem Sit.stc {c : Addr} {o : Obj} (S : Sit w n A env o₀ Fs J m ((c, o) :: news) s) {x : Str} {v : Value} {v₀ : Option Value} {Q : Unit → Shared → Prop} (hx : env.kindOf x = some .cell) (hc : env.cells.lookup x = some c) (hd : o.data = .cell v₀)
    (h : ∀ o' s', o'.data = .cell (some v) → Sit w n A env o₀ Fs J m ((c, o') :: news) s' → Q () s') : wpAny (MM w) A (storeName env x v) Q E s :=
  wpAny_storeName_cell S.hk hx hc ⟨o, S.hd, hd⟩ fun h' hv hs => by
    obtain ⟨o', ho', hd'⟩ := hv
    exact h o' _ hd' (S.turn (k := s.toks) hs ho')
end
-- text R5
section
variable {w : World} {n : Nat} {A : Around} {env : Env} {o₀ : OsState} {Fs J : Know} {m : Loc} {news : Led} {s : Shared} {E : Value → Shared → Prop}
/-- into a scope of the same frame -/
theorem Sit.enter (S : Sit w n A env o₀ Fs J m news s) {cenv : Env} {mC : Loc} {h₁ : Heap} {tk : Nat} (hns : h₁.Ns cenv.locals mC) (hk₁ : ∀ b o, s.heap.get? b = some o → h₁.get? b = some o) (hC : s.heap.get? cenv.locals = none)
    (hk : cenv.scope.kind = .function) (hg : cenv.globals = mainGlobals) (hb : cenv.builtins = builtinsNs) : Sit w n A cenv o₀ (FsOf Fs env.locals s.heap) J mC news { s with heap := h₁, toks := tk } := by
  have ne : ∀ {a : Addr} {x : Obj}, s.heap.get? a = some x → a ≠ cenv.locals := fun e q => by rw [q, hC] at e; cases e
  have hLn : env.locals ∉ news.map (·.1) := fun q => by
    obtain ⟨p, hp, e⟩ := List.mem_map.mp q
    exact (S.nw p hp).2 e
  refine ⟨hns, fun a x e => ?_, fun a x e => ?_, fun p hp => ⟨hk₁ _ _ (S.nw p hp).1, ne (S.nw p hp).1⟩, S.nd, S.st, S.fr, hk, hg, hb, S.hh, S.room, S.units, S.os, S.bare⟩
  · rcases e with e | ⟨rfl, e⟩
    · obtain ⟨h1, h2, h3⟩ := S.lf a x e
      exact ⟨hk₁ _ _ h1, ne h1, h3⟩
    · exact ⟨hk₁ _ _ e, ne e, hLn⟩
  · obtain ⟨h1, h2, h3, h4⟩ := S.lj a x e
    refine ⟨hk₁ _ _ h1, ne h1, h3, fun y q => ?_⟩
    rcases q with q | ⟨q, _⟩
    · exact h4 y q
    · exact h2 q
theorem Sit.leave {k : Nat} {A' : Around} (S : Sit w n A env o₀ Fs J m news s) {cenv : Env} {J' : Know} {m' : Loc} {news' : Led} {s' : Shared} (S' : Sit w k A' cenv o₀ (FsOf Fs env.locals s.heap) J' m' news' s') :
    Sit w n A env o₀ Fs J' m news' s' ∧ Loose env Fs J' news' s' cenv.locals := by
  obtain ⟨oL, esL, epL, hL, rL⟩ := S.ns
  have keepL := S'.lf env.locals oL (.inr ⟨rfl, hL⟩)
  refine ⟨⟨⟨oL, esL, epL, keepL.1, rL⟩, fun a x q => ?_, fun a x q => ?_, fun p hp => ⟨(S'.nw p hp).1, fun q => keepL.2.2 (by rw [← q]; exact List.mem_map_of_mem hp)⟩, S'.nd, S'.st, S.fr, S.hk, S.hg, S.hb, S.hh, S.room, S.units, S'.os, S'.bare⟩,
    (let ⟨o, _, _, h, _⟩ := S'.ns; ⟨o, h⟩), Ne.symm keepL.2.1, fun q => ?_, fun x h => (S'.lj _ x h).2.1 rfl, fun x h => (S'.lf _ x (.inl h)).2.1 rfl⟩
  · obtain ⟨h1, h2, h3⟩ := S'.lf a x (.inl q)
    exact ⟨h1, (S.lf a x q).2.1, h3⟩
  · obtain ⟨h1, h2, h3, h4⟩ := S'.lj a x q
    exact ⟨h1, fun z => h4 oL (.inr ⟨z, z ▸ hL⟩), h3, fun y z => h4 y (.inl z)⟩
  · obtain ⟨p, hp, e⟩ := List.mem_map.mp q
    exact (S'.nw p hp).2 e
noncomputable def CompGo (w : World) (A : Around) (env : Env) (E : Value → Shared → Prop) (elt iter : Expr) (x : Str) (px : Pos) (scope : Scope) (cl : List (Str × Addr)) (pos : Pos) (Q : Value → Shared → Prop) (it : Value) (s₂ : Shared) : Prop :=
  wpAny (MM w) A (newList []) (fun acc s₃ => wpAny (MM w) A (newFunctionEnv scope env.globals cl [] env.qual none .none (some env)) (fun cenv s₄ =>
    codeAny (MM w) A (.compStart (.ListComp elt [⟨.Name x px, iter, [], 0⟩] scope pos) 0 it acc { cenv with scope := relabel scope env }) (compPost (MM w) A E none Q acc cenv.locals) s₄) E s₃) E s₂
theorem listcomp_ {elt iter : Expr} {x : Str} {px : Pos} {scope : Scope} {cl : List (Str × Addr)} {pos : Pos} {Q : Value → Shared → Prop} (hclos : closureFor scope env = pure cl) (hkind : scope.kind = .function)
    (hnames : ∀ y ∈ scope.names, y.2 = .local → scope.names.lookup y.1 = some .local) (hs : ∀ x, foldedSetIterable iter env x = pure x)
    (h : wpAny (MM w) A (eval iter env) (fun xv s₁ => wpAny (MM w) A (pyIter xv) (CompGo w A env E elt iter x px scope cl pos Q) E s₁) E s) :
    wpAny (MM w) A (eval (.ListComp elt [⟨.Name x px, iter, [], 0⟩] scope pos) env) Q E s := by
  rw [eval_ListComp]
  exact wpAny_comprehension_free (use := none) rfl hs hclos hkind hnames h
section
variable {I : Addr} {fp wr : List Addr} {N : Nat} {P : Nat → Value → Prop} {St : Nat → Heap → Prop} {k : Nat}
theorem Sit.comp_ {elt iter : Expr} {x : Str} {px : Pos} {scope : Scope} {cl : List (Str × Addr)} {pos : Pos} {Q : Value → Shared → Prop} (S : Sit w n A env o₀ Fs J m news s) (W : Walks prg w A I fp wr N P St) (hwr : ∀ b ∈ wr, b = I)
    (hfp : ∀ b ∈ fp, b = I ∨ ∃ o, J b o) (hin : ∀ k h, St k h → ∃ o, h.get? I = some o) (hI : Loose env Fs J news s I) (hst : St 0 s.heap) (hN : N ≤ sizeLine)
    (hcell : ∀ y ∈ scope.names, y.2 ≠ .cell) (hkind : scope.kind = .function) (hx : scope.names.lookup x = some .local)
    (Inv : Nat → Know → Led → List Value → Prop) (h0 : Inv 0 J news [])
    (helt : ∀ k v J' mC news' ys D e cenv Fs' s' E', k < N → P k v → J.le J' → Inv k J' news' ys → cenv.scope = relabel scope env → cenv.cells = cl → Sit w n A cenv o₀ Fs' J' (upd mC x v) ((D, lO ys e) :: news') s' →
      wpAny (MM w) A (eval elt cenv) (fun y s'' => ∃ J'' mC'' news'', J'.le J'' ∧ Inv (k + 1) J'' news'' (ys ++ [y]) ∧ Sit w n A cenv o₀ Fs' J'' mC'' ((D, lO ys e) :: news'') s'') E' s')
    (after : ∀ D e ys J' news' s', J.le J' → Inv N J' news' ys → ys.length = N → Sit w n A env o₀ Fs J' m ((D, lO ys e) :: news') s' → Q (.ref D) s') :
    CompGo w A env E elt iter x px scope cl pos Q (.ref I) s := by
  unfold CompGo
  refine wpAny_newObj_type (wpAny_newFunctionEnv hcell (by intro y hy; simp at hy) (fun h₁ hns hsb => ?_) hkind)
  have S1 := S.push (k := s.toks) (lO [] 0)
  generalize hs2 : ({ s with heap := s.heap.push (lO [] 0), toks := s.toks } : Shared) = s2 at S1
  have e2 : s2.heap = s.heap.push (lO [] 0) := by rw [← hs2]
  have e2' : ({ s with heap := s.heap.push { cls := .type "list", dict := none, data := .seq ([] : List Value).toArray } } : Shared) = s2 := by rw [← hs2]
  (try rw [e2'] at hns); (try rw [e2'] at hsb)
  have hC : s2.heap.get? s2.heap.objs.size = none := by
    cases q : s2.heap.get? s2.heap.objs.size with
    | none => rfl
    | some y => exact absurd (Heap.lt_size q) (Nat.lt_irrefl _)
  have keep : ∀ b o, s2.heap.get? b = some o → h₁.get? b = some o := fun b o e => hsb.extBut b o (Nat.ne_of_lt (Heap.lt_size e)) (Heap.get?_push_of_some _ e)
  have S2 := S1.enter (cenv := compEnvC scope cl s2.heap.objs.size env) (mC := fun x => ([] : List (Str × Value)).reverse.lookup x) (tk := s2.toks + ([] : List (Str × Value)).length) hns keep hC (by show (relabel scope env).kind = _; exact hkind) S.hg S.hb
  have hI1 : Loose (compEnvC scope cl s2.heap.objs.size env) (FsOf Fs env.locals s2.heap) J ((s.heap.objs.size, lO [] 0) :: news) { s2 with heap := h₁, toks := s2.toks + ([] : List (Str × Value)).length } I := by
    obtain ⟨⟨o, ho⟩, g2, g3, g4, g5⟩ := hI
    have ho2 : s2.heap.get? I = some o := by rw [e2]; exact Heap.get?_push_of_some _ ho
    refine ⟨⟨o, keep _ _ ho2⟩, Nat.ne_of_lt (Heap.lt_size ho2), fun q => ?_, g4, fun y q => ?_⟩
    · rcases List.mem_cons.mp q with q | q
      · exact absurd q (Nat.ne_of_lt (Heap.lt_size ho))
      · exact g3 q
    · rcases q with q | ⟨q, _⟩
      · exact g5 y q
      · exact g2 q
  have hst1 : St 0 h₁ := W.frame _ _ _ hst fun b _ o e => keep b o (by rw [e2]; exact Heap.get?_push_of_some _ e)
  have loop : ∀ E₂, codeAny (MM w) A (.compLoop (.ListComp elt [⟨.Name x px, iter, [], 0⟩] scope pos) 0 (.ref I) (.ref s.heap.objs.size) (compEnvC scope cl s2.heap.objs.size env))
      (compPost (MM w) A E₂ none Q (.ref s.heap.objs.size) s2.heap.objs.size) { s2 with heap := h₁, toks := s2.toks + ([] : List (Str × Value)).length } := by
    intro E₂
    refine codeAny_compLoop_list (fun j s' => ∃ k J' mC news' ys e, j = N - k ∧ k ≤ N ∧ J.le J' ∧ Inv k J' news' ys ∧ ys.length = k ∧ Sit w n A (compEnvC scope cl s2.heap.objs.size env) o₀ (FsOf Fs env.locals s2.heap) J' mC ((s.heap.objs.size, lO ys e) :: news') s' ∧
      Loose (compEnvC scope cl s2.heap.objs.size env) (FsOf Fs env.locals s2.heap) J' ((s.heap.objs.size, lO ys e) :: news') s' I ∧ St k s'.heap) ?_ N ⟨0, J, _, news, [], 0, rfl, Nat.zero_le _, .refl _, h0, rfl, S2, hI1, hst1⟩ (fun _ => rfl)
    rintro j s' ⟨k, J', mC, news', ys, e, rfl, hkN, hle, hinv, hlen, S, hI, hst⟩
    rcases Nat.lt_or_ge k N with hk | hk
    · refine S.next W hwr hI hin hst hk fun v s' hP S hI hst => ?_
      dsimp only
      obtain ⟨oI, hoI⟩ := hI.1
      refine wpAny_assign_Name ((S.guard hI hoI).st_ (lookup_relabel_local hx) fun s₂ S₂ => ?_)
      refine wpAny_mono (helt k v J' mC news' ys _ e _ _ s₂ _ hk hP hle hinv rfl rfl S₂) (fun y s₃ h => ?_) fun _ _ e => e
      obtain ⟨J'', mC'', news'', hle', hinv', G⟩ := h
      refine G.append (by rw [hlen]; omega) fun s₄ G => ?_
      obtain ⟨S₃, hI₃, hget⟩ := G.unguard hI.2.2.2.2
      have st : St (k + 1) s₄.heap := W.frame _ _ _ hst fun b hb o e => by
        rcases hfp b hb with rfl | ⟨o', ho'⟩
        · rw [hoI] at e; cases e; exact hget
        · have e1 := S.get (hle _ _ ho')
          rw [e1] at e; cases e
          exact S₃.get (hle' _ _ (hle _ _ ho'))
      exact ⟨N - (k + 1), by omega, k + 1, J'', mC'', news'', _, _, rfl, hk, hle.trans hle', hinv', by simp [hlen], S₃, hI₃, st⟩
    · obtain rfl : k = N := by omega
      refine S.nextEnd W hwr hI hst fun s' S => ?_
      dsimp only
      refine ⟨mC, S.ns, fun h' hs' => ?_⟩
      obtain ⟨S4, hC4⟩ := S1.leave S
      refine after _ e ys J' news' _ hle hinv hlen (S4.aside (s' := { s' with heap := h' }) hC4 (fun b o hb e => (hs'.2 b hb).trans e) rfl S4.bare)
  exact codeAny_compStart_list (loop _) (W.self 0 _ _ _ hst1 (loop _))
end
end
-- text RW
section
variable {w : World} {n : Nat} {A : Around} {env : Env} {o₀ : OsState} {Fs J : Know} {m : Loc} {news : Led} {s : Shared} {E : Value → Shared → Prop}
abbrev rgO (a b c : Int) (t u v : Tok) : Obj := { cls := .type "range", data := .fields #[.int a t, .int b u, .int c v] }
theorem Sit.keep1 {a : Addr} {o : Obj} (S : Sit w n A env o₀ Fs J m ((a, o) :: news) s) {Q : Prop} (h : ∀ J', J.le J' → J' a o → Sit w n A env o₀ Fs J' m news s → Q) : Q := h _ (J.add_le a o) (J.add_self a o) S.freeze
theorem Sit.range1 (S : Sit w n A env o₀ Fs J m news s) {i : Int} {t : Tok} {Q : Value → Shared → Prop} (h : ∀ r J' t u v s', J.le J' → J' r (rgO 0 i 1 t u v) → Sit w n A env o₀ Fs J' m news s' → Q (.ref r) s') :
    wpAny (MM w) A (PySem.call (.type "range") [.int i t]) Q E s :=
  call_range_1 ((S.push _).keep1 fun J' hle hj S => h _ J' _ _ _ _ hle hj S)
theorem Sit.range3 (S : Sit w n A env o₀ Fs J m news s) {a b c : Int} {t u v : Tok} {Q : Value → Shared → Prop} (hc : c ≠ 0) (hp : Builtin.divisionGoesByPylong (b - a) c = false) (h : ∀ r J' s', J.le J' → J' r (rgO a b c t u v) → Sit w n A env o₀ Fs J' m news s' → Q (.ref r) s') :
    wpAny (MM w) A (PySem.call (.type "range") [.int a t, .int b u, .int c v]) Q E s :=
  call_range_3 hc ((S.push _).keep1 fun J' hle hj S => h _ J' _ hle hj S) (.inl hp)
theorem Sit.compRange {elt iter : Expr} {x : Str} {px : Pos} {scope : Scope} {cl : List (Str × Addr)} {pos : Pos} {Q : Value → Shared → Prop} {r : Addr} {a b c : Int} {t u v : Tok} {N : Nat} (S : Sit w n A env o₀ Fs J m news s) (hr : J r (rgO a b c t u v)) (hsm : Builtin.Range.small a b c = true)
    (hsz : Builtin.Range.rangeSize a b c = N) (hN : N ≤ sizeLine)
    (hcell : ∀ y ∈ scope.names, y.2 ≠ .cell) (hkind : scope.kind = .function) (hx : scope.names.lookup x = some .local)
    (Inv : Nat → Know → Led → List Value → Prop) (h0 : Inv 0 J news [])
    (helt : ∀ k t J' mC news' ys D e cenv Fs' s' E', k < N → J.le J' → Inv k J' news' ys → cenv.scope = relabel scope env → cenv.cells = cl → Sit w n A cenv o₀ Fs' J' (upd mC x (.int (a + k * c) t)) ((D, lO ys e) :: news') s' →
      wpAny (MM w) A (eval elt cenv) (fun y s'' => ∃ J'' mC'' news'', J'.le J'' ∧ Inv (k + 1) J'' news'' (ys ++ [y]) ∧ Sit w n A cenv o₀ Fs' J'' mC'' ((D, lO ys e) :: news'') s'') E' s')
    (after : ∀ D e ys J' news' s', J.le J' → Inv N J' news' ys → ys.length = N → Sit w n A env o₀ Fs J' m ((D, lO ys e) :: news') s' → Q (.ref D) s') :
    wpAny (MM w) A (pyIter (.ref r)) (CompGo w A env E elt iter x px scope cl pos Q) E s := by
  refine wpAny_pyIter_range (S.get hr) hsm ?_
  rw [hsz]
  have S1 := S.push (k := s.toks) { cls := .type "range_iterator", data := .fields #[rawInt a, rawInt N, rawInt c] }
  obtain ⟨S2, hI⟩ := S1.loosen
  refine S2.comp_ (Walks.range (prog := prg) (w := w) (A := A) S.hh s.heap.objs.size a c N) (by simp) (fun b hb => .inl (by simpa using hb)) (fun k h st => ⟨_, st⟩) hI ?_ hN hcell hkind hx Inv h0 (fun k v J' mC news' ys D e cenv Fs' s' E' hk hP hle hinv hsc hce S => ?_) after
  · have := S1.hd
    show (s.heap.push _).get? _ = some _
    simpa using this
  · obtain ⟨t, rfl⟩ := hP
    exact helt k t J' mC news' ys D e cenv Fs' s' E' hk hle hinv hsc hce S
theorem Sit.compList {elt iter : Expr} {x : Str} {px : Pos} {scope : Scope} {cl : List (Str × Addr)} {pos : Pos} {Q : Value → Shared → Prop} {l : Addr} {vs : List Value} {e₀ : Nat} (S : Sit w n A env o₀ Fs J m news s) (hl : J l (lO vs e₀)) (hN : vs.length ≤ sizeLine)
    (hcell : ∀ y ∈ scope.names, y.2 ≠ .cell) (hkind : scope.kind = .function) (hx : scope.names.lookup x = some .local)
    (Inv : Nat → Know → Led → List Value → Prop) (h0 : Inv 0 J news [])
    (helt : ∀ k v J' mC news' ys D e cenv Fs' s' E', vs[k]? = some v → J.le J' → Inv k J' news' ys → cenv.scope = relabel scope env → cenv.cells = cl → Sit w n A cenv o₀ Fs' J' (upd mC x v) ((D, lO ys e) :: news') s' →
      wpAny (MM w) A (eval elt cenv) (fun y s'' => ∃ J'' mC'' news'', J'.le J'' ∧ Inv (k + 1) J'' news'' (ys ++ [y]) ∧ Sit w n A cenv o₀ Fs' J'' mC'' ((D, lO ys e) :: news'') s'') E' s')
    (after : ∀ D e ys J' news' s', J.le J' → Inv vs.length J' news' ys → ys.length = vs.length → Sit w n A env o₀ Fs J' m ((D, lO ys e) :: news') s' → Q (.ref D) s') :
    wpAny (MM w) A (pyIter (.ref l)) (CompGo w A env E elt iter x px scope cl pos Q) E s := by
  refine wpAny_pyIter_list (items := vs.toArray) ⟨_, S.get hl, rfl, e₀, rfl⟩ ?_
  have S1 := S.push (k := s.toks) { cls := .type "list_iterator", data := .fields #[.ref l, .int 0 0] }
  have hne : l ≠ s.heap.objs.size := Nat.ne_of_lt (Heap.lt_size (S.get hl))
  obtain ⟨S2, hI⟩ := S1.loosen
  have W : Walks prg w A s.heap.objs.size [s.heap.objs.size, l] [s.heap.objs.size] vs.length (fun i v => vs.toArray[i]? = some v) (fun i h => h.IsListIter s.heap.objs.size l i ∧ h.IsList l vs.toArray) := by
    have := Walks.list (prog := prg) (w := w) S.hh s.heap.objs.size l hne vs.toArray
    rwa [List.size_toArray] at this
  refine S2.comp_ W (by simp) (fun b hb => ?_) (fun k h st => ?_) hI ⟨⟨_, S1.hd, rfl, rfl⟩, ⟨_, S2.get hl, rfl, e₀, rfl⟩⟩ hN hcell hkind hx Inv h0
    (fun k v J' mC news' ys D e cenv Fs' s' E' hk hP hle hinv hsc hce S => helt k v J' mC news' ys D e cenv Fs' s' E' (by simpa using hP) hle hinv hsc hce S) after
  · rcases List.mem_cons.mp hb with rfl | hb
    · exact .inl rfl
    · rw [List.mem_singleton.mp hb]; exact .inr ⟨_, hl⟩
  · obtain ⟨⟨o, ho, _⟩, _⟩ := st
    exact ⟨o, ho⟩
noncomputable def relabelC (scope sc : Scope) : Scope := { scope with names := scope.names.map fun (n, k) => if (k == .free && sc.kind == .function && sc.names.lookup n == some .cell) then (n, .cell) else (n, k) }
theorem relabel_eq {scope sc : Scope} (h : env.scope = sc) : relabel scope env = relabelC scope sc := by
  unfold relabel relabelC Env.kindOf
  rw [h]
noncomputable def rowOf (x : Int) : List Int := (List.range (1 + x.fmod 5).toNat).map fun k => ((x.fdiv 5).fdiv (256 ^ k)).fmod 256
theorem noP256 (a : Int) : ∀ (k : Nat), k < 5 → Builtin.divisionGoesByPylong a (256 ^ k) = false
  | 0, _ => PyProof.noPylong_of_log2 (by decide +kernel)
  | 1, _ => PyProof.noPylong_of_log2 (by decide +kernel)
  | 2, _ => PyProof.noPylong_of_log2 (by decide +kernel)
  | 3, _ => PyProof.noPylong_of_log2 (by decide +kernel)
  | 4, _ => PyProof.noPylong_of_log2 (by decide +kernel)
  | k + 5, h => absurd h (by omega)
theorem small_range {a b c : Int} (ha : -1000 ≤ a ∧ a ≤ 1000) (hb : -1000 ≤ b ∧ b ≤ 1000) (hc : c = 1 ∨ c = -1) : Builtin.Range.small a b c = true := by
  have hs : -3000 ≤ Builtin.Range.rangeSize a b c ∧ Builtin.Range.rangeSize a b c ≤ 3000 := by
    unfold Builtin.Range.rangeSize
    rcases hc with rfl | rfl
    · simp only [show (1 : Int) > 0 from by decide, if_true]
      split <;> omega
    · simp only [show ¬ ((-1 : Int) > 0) from by decide, if_false, show (- -1 : Int) = 1 from rfl]
      split <;> omega
  have fit : ∀ x : Int, -5000 ≤ x → x ≤ 5000 → Builtin.Range.rangeFitsLong x = true := fun x h1 h2 => by
    unfold Builtin.Range.rangeFitsLong
    simp
    omega
  unfold Builtin.Range.small
  rw [fit a (by omega) (by omega), fit b (by omega) (by omega), fit c (by omega) (by omega), fit _ (by omega) (by omega)]
  rcases hc with rfl | rfl
  · rw [if_pos (by decide), fit _ (by omega) (by omega)]; simp
  · rw [if_neg (by decide), fit _ (by omega) (by omega)]; simp
theorem law_row_spec {x : Int} {t : Tok} {Q : Value → Shared → Prop} (S : Sit w (n + 1) A env o₀ Fs J m news s)
    (h : ∀ r J' s' vs e, J.le J' → J' r (lO vs e) → IntsAre vs (rowOf x) → Sit w (n + 1) A env o₀ Fs J' m news s' → Q (.ref r) s') : wpAny (MM w) A (call (.ref 245) [.int x t]) Q E s := by
  refine' Sit.defcallC (binds := [(Str.ofString "x", .int x t)]) S ?ho ?hd ?hb ?hcl ?hc ?hbi ?hkd ?hnd ?hgl ?hbl ?hco ?hge ?hk ?_
  case ho => k_is
  case hd => rfl
  case hb => rfl
  case hcl => rfl
  case hc => k_is
  case hbi => exact BindsTo.of_eq rfl
  case hkd => rfl
  case hnd => decide
  case hgl => rfl
  case hbl => rfl
  case hco => rfl
  case hge => rfl
  case hk => rfl
  intro env s E Fs' L cells hsc hce hcd hql hfr hca S
  dsimp only at hsc hce hcd hql
  obtain ⟨oc, rfl, hoc⟩ := CellsAre.one (n := Str.ofString "x") (c := L + 1) hca
  have hoc : oc.data = .cell (some (.int x t)) := hoc
  have hce : env.cells = [(Str.ofString "x", L + 1)] := hce
  simp only [List.singleton_append] at S
  kc_bool
  kc_bool
  refine listcomp_ (cl := [(Str.ofString "x", L + 1)]) (by unfold closureFor cellOf; rw [hce]; rfl) rfl (by decide) (fun _ => rfl) ?_
  repeat kc_bool
  refine S.mod (by decide) ?_
  intro _ s S
  repeat kc_bool
  refine S.range1 ?_
  intro r J1 _ _ _ s hle1 hr S
  have h5 := Int.fmod_nonneg_of_pos x (by decide : (0 : Int) < 5)
  have h5' := Int.fmod_lt_of_pos x (by decide : (0 : Int) < 5)
  have hN : (1 + x.fmod 5) = (((1 + x.fmod 5).toNat : Nat) : Int) := by omega
  refine S.compRange (N := (1 + x.fmod 5).toNat) hr ?_ ?_ (by rw [sizeLine_eq]; omega) (by decide) rfl rfl (fun k J' news' ys => J1.le J' ∧ news' = (L + 1, oc) :: news ∧ IntsAre ys ((List.range k).map fun k => ((x.fdiv 5).fdiv (256 ^ k)).fmod 256)) ⟨.refl _, rfl, .nil⟩ ?_ ?_
  · exact small_range (by omega) (by omega) (.inl rfl)
  · unfold Builtin.Range.rangeSize
    rw [if_pos (by decide), if_pos (by omega)]
    omega
  · rintro k t1 J2 mC news' ys D e cenv Fs2 s E hk hle ⟨hle2, rfl, hys⟩ hsc2 hce S
    have hsc := hsc2.trans (relabel_eq hsc)
    repeat kc_bool
    refine S.div (by decide) (PyProof.noPylong_small (by decide)) ?_
    intro _ s S
    repeat kc_bool
    refine S.pow (by omega) (by omega) (by decide) ?_
    intro _ s S
    have ek : (0 + (k : Int) * 1).toNat = k := by omega
    rw [ek]
    refine S.div ?_ (noP256 _ k (by omega)) ?_
    · exact Int.ne_of_gt (Int.pow_pos (by decide))
    intro _ s S
    repeat kc_bool
    refine S.mod (by decide) ?_
    intro t2 s S
    refine ⟨J2, _, _, .refl _, ⟨hle2, rfl, ?_⟩, S⟩
    rw [List.range_succ, List.map_append]
    exact ksk_snoc hys
  · rintro D e ys J2 news' s hle ⟨_, rfl, hys⟩ hlen S
    refine S.keep1 fun J3 hle3 hD S => ?_
    exact ⟨_, _, _, S, fun S => h _ _ _ _ _ ((hle1.trans hle).trans hle3) hD hys S.drop⟩
end
-- text RS
section
variable {w : World} {n : Nat} {A : Around} {env : Env} {o₀ : OsState} {Fs J : Know} {m : Loc} {news : Led} {s : Shared} {E : Value → Shared → Prop}
section
variable {x y : Str} {t u : Tok} {Q : Value → Shared → Prop}
theorem Sit.sAdd (S : Sit w n A env o₀ Fs J m news s) (hz : x.length + y.length ≤ sizeLine) (h : ∀ t s', Sit w n A env o₀ Fs J m news s' → Q (.str (x ++ y) t) s') : wpAny (MM w) A (binaryOp .Add (.str x t) (.str y u)) Q E s := SB.add (fun t' k => h _ _ (S.toks k)) hz
theorem Sit.sLen (S : Sit w n A env o₀ Fs J m news s) (hz : x.length < 2 ^ 62) (h : ∀ t s', Sit w n A env o₀ Fs J m news s' → Q (.int x.length t) s') : wpAny (MM w) A (PySem.call (.builtin "len") [.str x t]) Q E s := P.len_str (by omega) (h _ _ (S.toks _))
theorem Sit.sItem (S : Sit w n A env o₀ Fs J m news s) {value slice : Expr} {i : Int} (h0 : 0 ≤ i) (h2 : i < x.length) (hf : i < 2 ^ 62) (h : ∀ t s', Sit w n A env o₀ Fs J m news s' → Q (.str (Txt.item x i) t) s')
    (hs : subscripted slice false (.str x t) (.int i u) = operate [.str x t, .int i u] (getItem (.str x t) (.int i u))) (ht : ∀ r, letTemporaryGo value (.str x t) r = pure ()) :
    wpAny (MM w) A (subscriptTail value slice (.str x t) (.int i u)) Q E s := item_str (by simp [fitsSsize]; omega) (by omega) h2 (fun _ => h _ _ (S.toks _)) hs ht
theorem Sit.sJoin (S : Sit w n A env o₀ Fs J m news s) {l : Addr} {vs : List Value} {e : Nat} {ys : List Str} (ho : s.heap.get? l = some (lO vs e)) (hi : StrsAre vs ys) (hz : (ys.map (·.length)).sum + ys.length * x.length ≤ 16777216)
    (h : ∀ t s', Sit w n A env o₀ Fs J m news s' → Q (.str (Txt.join x ys) t) s') : wpAny (MM w) A (PySem.call (.builtin "str.join") [.str x t, .ref l]) Q E s :=
  join_list (items := vs.toArray) ⟨_, ho, rfl, e, rfl⟩ (by simpa using hi) hz fun t' k => h _ _ (S.toks k)
theorem mStr {name : Str} {id : String} {pl : Sem Bool} {Q : Value × List Value → Shared → Prop} (slot : Slot "str" name id)
    (hty : typeOf (.builtin id) = pure (.type "method_descriptor")) (h : Q (.builtin id, [.str x t]) s) : wpAny (MM w) A (getMethod (.str x t) name pl) Q E s :=
  getMethod_builtin (typeIs_str s x t) PySem.F.plainAttrs_str slot hty (fun a e => by cases e) h
end
theorem Sit.newT (S : Sit w n A env o₀ Fs J m news s) {vs : List Value} {Q : Value → Shared → Prop} (hz : vs.length ≤ sizeLine) (h : ∀ a J' s', J.le J' → J' a (tO vs) → Sit w n A env o₀ Fs J' m news s' → Q (.ref a) s') : wpAny (MM w) A (newTuple vs) Q E s :=
  wpAny_newObj_type ((S.push (k := s.toks) (tO vs)).keep1 fun J' hle hj S => h _ J' _ hle hj S) (by show vs.toArray.size ≤ sizeLine; rw [List.size_toArray]; exact hz)
theorem Sit.newL (S : Sit w n A env o₀ Fs J m news s) {vs : List Value} {Q : Value → Shared → Prop} (hz : vs.length ≤ sizeLine) (h : ∀ a s', Sit w n A env o₀ Fs J m ((a, lO vs 0) :: news) s' → Q (.ref a) s') : wpAny (MM w) A (newList vs) Q E s :=
  wpAny_newObj_type (h _ _ (S.push (k := s.toks) (lO vs 0))) (by show vs.toArray.size ≤ sizeLine; rw [List.size_toArray]; exact hz)
theorem Sit.ext (S : Sit w n A env o₀ Fs J m news s) {h' : Heap} {k : Nat} (he : Heap.ExtBut s.heap.objs.size s.heap h') : Sit w n A env o₀ Fs J m news { s with heap := h', toks := k } :=
  S.keeps fun a o e => he a o (Nat.ne_of_lt (Heap.lt_size e)) e
theorem Sit.unpackT (S : Sit w n A env o₀ Fs J m news s) {a : Addr} {vs : List Value} {k : Nat} {Q : List Value → Shared → Prop} (ha : J a (tO vs)) (hk : k = vs.length) (h : ∀ s', Sit w n A env o₀ Fs J m news s' → Q vs s') : wpAny (MM w) A (unpackItems (.ref a) k none) Q E s := by
  subst hk
  have := unpackItems_tuple (prog := prg) (w := w) (A := A) (E := E) (Q := Q) (items := vs.toArray) S.hh ⟨_, S.get ha, rfl, 0, rfl⟩ (fun h' he => by simpa using h _ (S.ext (k := s.toks) he))
  simpa using this
theorem Sit.assignT (S : Sit w n A env o₀ Fs J m news s) {a : Addr} {vs : List Value} {elts : List Expr} {k : Nat} {pos : Pos} {Q : Unit → Shared → Prop} (ha : J a (tO vs)) (hn : (assignEach elts env).length = vs.length) (hstar : (assignEach elts env).findIdx? (·.1) = none)
    (h : ∀ s', Sit w n A env o₀ Fs J m news s' → wpAny (MM w) A (assignInOrder ((assignEach elts env).map (·.2)) vs) Q E s') : wpAny (MM w) A (assign (.Tuple elts k pos) env (.ref a)) Q E s := by
  refine wpAny_assign_Tuple (items := vs.toArray) S.hh ⟨_, S.get ha, rfl, 0, rfl⟩ (by simpa using hn) hstar fun h' he => ?_
  simpa using h _ (S.ext (k := s.toks) he)
theorem inOrder_cons {f : Value → Sem Unit} {fs : List (Value → Sem Unit)} {v : Value} {vs : List Value} {Q : Unit → Shared → Prop} (h : wpAny (MM w) A (f v) (fun _ s' => wpAny (MM w) A (assignInOrder fs vs) Q E s') E s) : wpAny (MM w) A (assignInOrder (f :: fs) (v :: vs)) Q E s := by
  show wpAny (MM w) A (do holding vs (f v); assignInOrder fs vs) Q E s
  exact wpAny_bind (wpAny_holding h)
theorem inOrder_nil {Q : Unit → Shared → Prop} (h : Q () s) : wpAny (MM w) A (assignInOrder [] []) Q E s := wpAny_pure h
end
-- text WR
section
variable {w : World} {n : Nat} {A : Around} {env : Env} {o₀ : OsState} {Fs J : Know} {m : Loc} {news : Led} {s : Shared} {E : Value → Shared → Prop}
theorem eachN {x : Str} {pos : Pos} {r : List Expr} {env : Env} : assignEach (.Name x pos :: r) env = (false, assign (.Name x pos) env) :: assignEach r env := rfl
theorem each0 {env : Env} : assignEach [] env = [] := rfl
theorem fold_rep (c : Nat) : ∀ (k : Nat) (acc : Array Nat), (List.replicate k #[c]).foldl (· ++ ·) acc = acc ++ (List.replicate k c).toArray
  | 0, acc => by simp
  | k + 1, acc => by
    rw [List.replicate_succ, List.foldl_cons, fold_rep c k, List.replicate_succ]
    apply Array.toList_inj.mp
    simp
theorem Sit.sRep (S : Sit w n A env o₀ Fs J m news s) {c : Nat} {i : Int} {t u : Tok} {Q : Value → Shared → Prop} (h0 : 0 ≤ i) (h1 : i ≤ 100) (h : ∀ t s', Sit w n A env o₀ Fs J m news s' → Q (.str ⟨(List.replicate i.toNat c).toArray⟩ t) s') :
    wpAny (MM w) A (binaryOp .Mult (.str ⟨#[c]⟩ t) (.int i u)) Q E s := by
  refine P.mul_str (by simp; omega) (fun h2 _ => ?_) (fun h2 _ => ?_) ?_
  · show ¬ ((1 : Nat) : Int) > _
    have : (1 : Int) ≤ (2 ^ 63 - 1) / i := by
      rw [Int.le_ediv_iff_mul_le (by omega)]; omega
    simpa using this
  · show decide (1 * i.toNat > sizeLine) = false
    rw [sizeLine_eq]; simp; omega
  · by_cases h2 : i < 1
    · rw [if_pos h2]
      have e : i.toNat = 0 := by omega
      have := h s.toks _ (S.toks (s.toks + 1))
      rw [e] at this
      exact ⟨by decide, this⟩
    · rw [if_neg h2]
      by_cases h3 : i = 1
      · subst h3
        rw [if_pos (by rfl)]
        exact h t _ S
      · rw [if_neg (by simp [h3]; exact fun q => by cases q)]
        refine ⟨?_, ?_⟩
        · show (Array.size _) ≤ sizeLine
          rw [fold_rep]; simp [sizeLine_eq]; omega
        · have := h s.toks _ (S.toks (s.toks + 1))
          rw [fold_rep]
          simpa using this
noncomputable def sgnS : Str := Str.ofString "ABCDEFGHIJKLMNOPQRSTUVWXYZabcdefghijklmnopqrstuvwxyz0123456789+/"
noncomputable def numOf (ns : List Int) : Int := ns.foldl (fun a o => a * 256 + o) 0
noncomputable def manyN (k : Nat) : Nat := (8 * k + 5) / 6
noncomputable def shifted (ns : List Int) : Int := numOf ns * 2 ^ (6 * manyN ns.length - 8 * ns.length)
noncomputable def written (ns : List Int) : Str :=
  Txt.join (Str.ofString "") ((List.range (manyN ns.length)).map fun i => Txt.item sgnS (((shifted ns).fdiv (64 ^ (manyN ns.length - 1 - i))).fmod 64)) ++ ⟨(List.replicate ((-(manyN ns.length : Int)).fmod 4).toNat 61).toArray⟩
theorem ints_get : ∀ {vs : List Value} {ns : List Int} {k : Nat} {v : Value}, IntsAre vs ns → vs[k]? = some v → ∃ i t, ns[k]? = some i ∧ v = .int i t
  | _, _, 0, _, .cons _ _ _, h => by cases h; exact ⟨_, _, rfl, rfl⟩
  | _, _, k + 1, _, .cons _ _ r, h => ints_get (k := k) r h
theorem strs_snoc : ∀ {vs : List Value} {ys : List Str} {y : Str} {t : Tok}, StrsAre vs ys → StrsAre (vs ++ [.str y t]) (ys ++ [y])
  | _, _, _, _, .nil => .cons _ _ .nil
  | _, _, _, _, .cons _ _ r => .cons _ _ (strs_snoc r)
theorem item_len (x : Str) (i : Int) : (Txt.item x i).length ≤ 1 := Nat.le_refl 1
theorem sum_len1 {f : Nat → Str} (h : ∀ i, (f i).length ≤ 1) {k : Nat} : (((List.range k).map f).map (·.length)).sum ≤ k := by
  induction k with
  | zero => simp
  | succ k ih =>
    rw [List.range_succ]
    simp only [List.map_append, List.sum_append, List.map_cons, List.map_nil, List.sum_cons, List.sum_nil]
    have := h k
    omega
theorem noP64 (a : Int) : ∀ (k : Nat), k < 7 → Builtin.divisionGoesByPylong a (64 ^ k) = false
  | 0, _ => PyProof.noPylong_of_log2 (by decide +kernel)
  | 1, _ => PyProof.noPylong_of_log2 (by decide +kernel)
  | 2, _ => PyProof.noPylong_of_log2 (by decide +kernel)
  | 3, _ => PyProof.noPylong_of_log2 (by decide +kernel)
  | 4, _ => PyProof.noPylong_of_log2 (by decide +kernel)
  | 5, _ => PyProof.noPylong_of_log2 (by decide +kernel)
  | 6, _ => PyProof.noPylong_of_log2 (by decide +kernel)
  | k + 7, h => absurd h (by omega)
theorem join_len (sep : Str) (parts : List Str) : (Txt.join sep parts).length ≤ (parts.map (·.length)).sum + parts.length * sep.length := by
  show (Builtin.Str.glued sep parts).length ≤ _
  rw [StrLaws.glued_eq_join]
  exact StrLaws.join_length_le sep parts
theorem bits2 : ∀ {k : Nat}, k < 6 → Builtin.Int.intBits (2 ^ k) ≤ 64
  | 0, _ => by decide
  | 1, _ => by decide
  | 2, _ => by decide
  | 3, _ => by decide
  | 4, _ => by decide
  | 5, _ => by decide
set_option maxHeartbeats 4000000 in
theorem written_spec {r : Addr} {vs : List Value} {e : Nat} {ns : List Int} {Q : Value → Shared → Prop} (S : Sit w (n + 1) A env o₀ Fs J m news s) (hr : J r (lO vs e)) (hi : IntsAre vs ns) (hl1 : 1 ≤ ns.length) (hl : ns.length ≤ 5)
    (h : ∀ t J' s', J.le J' → Sit w (n + 1) A env o₀ Fs J' m news s' → Q (.str (written ns) t) s') : wpAny (MM w) A (call (.ref 250) [.ref r]) Q E s := by
  refine' Sit.defcallC (binds := [(Str.ofString "row", .ref r)]) S ?ho ?hd ?hb ?hcl ?hc ?hbi ?hkd ?hnd ?hgl ?hbl ?hco ?hge ?hk ?_
  case ho => k_is
  case hd => rfl
  case hb => rfl
  case hcl => rfl
  case hc => k_is
  case hbi => exact BindsTo.of_eq rfl
  case hkd => rfl
  case hnd => decide
  case hgl => rfl
  case hbl => rfl
  case hco => rfl
  case hge => rfl
  case hk => rfl
  intro env s E Fs' L cells hsc hce hcd hql hfr hca S
  dsimp only at hsc hce hcd hql
  obtain ⟨oa, ob, rfl, hoa, hob⟩ := CellsAre.two (n := Str.ofString "number") (n' := Str.ofString "signs") (c := L + 1 + 1) (c' := L + 1) hca
  have hoa : oa.data = .cell none := hoa
  have hob : ob.data = .cell none := hob
  have hce : env.cells = [(Str.ofString "number", L + 1 + 1), (Str.ofString "signs", L + 1)] := hce
  simp only [List.cons_append, List.nil_append] at S
  have hlen : vs.length = ns.length := hi.length
  have hl2 : env.kindOf (Str.ofString "signs") = some .cell := kind_of hsc rfl
  refine wpAny_execs_cons (Assign_Tuple ?_ (by with_unfolding_all rfl) (by unfold swappedStores Env.blockKind Env.kindOf; rw [hsc]; rfl))
  repeat kc_bool
  refine S.lenL (S.get hr) (by omega) ?_
  intro _ s S
  repeat kc_bool
  refine S.mul (.of_left (by decide)) ?_
  intro _ s S
  repeat kc_bool
  refine S.div (by decide) (PyProof.noPylong_small (by decide)) ?_
  intro _ s S
  repeat kc_bool
  refine S.newT (by simp [sizeLine_eq]) ?_
  intro tp J1 s hle1 htp S
  refine S.assignT htp rfl rfl ?_
  intro s S
  simp only [eachN, each0, List.map_cons, List.map_nil]
  repeat kc_bool
  replace S := S.perm (List.Perm.swap _ _ _)
  refine S.stc (kind_of hsc rfl) (by rw [hce]; rfl) hob ?_
  intro ob s hob S
  repeat kc_bool
  replace S := S.perm (List.Perm.swap _ _ _)
  refine S.stc (kind_of hsc rfl) (by rw [hce]; rfl) hoa ?_
  intro oa s hoa S
  repeat kc_bool
  refine wpAny_execs_cons (wpAny_For ?_ (fun _ => rfl))
  repeat kc_bool
  have emany : (8 * (vs.length : Int) + 5).fdiv 6 = (manyN ns.length : Nat) := by
    rw [Int.fdiv_eq_ediv_of_nonneg _ (by decide)]
    unfold manyN; omega
  rw [emany] at S
  refine S.forList (kind_of hsc rfl) (hle1 _ _ hr) (fun k J' m' news' => J1.le J' ∧ m' (Str.ofString "row") = some (.ref r) ∧ (∃ t, m' (Str.ofString "many") = some (.int (manyN ns.length : Nat) t)) ∧ ∃ oa t, oa.data = .cell (some (.int (numOf (ns.take k)) t)) ∧ news' = (L + 1 + 1, oa) :: (L + 1, ob) :: news) ⟨.refl _, rfl, ⟨_, rfl⟩, oa, _, hoa, rfl⟩ ?_ ?_
  · rintro k v J2 m2 news2 Fs2 s E hv hle2 ⟨_, hrow, ⟨tm, hmany⟩, oa, tn, hoa, rfl⟩ S
    obtain ⟨i, ti, hin, rfl⟩ := ints_get hi hv
    repeat kc_bool
    refine S.mul (.of_right (by decide)) ?_
    intro _ s S
    repeat kc_bool
    refine S.stc (kind_of hsc rfl) (by rw [hce]; rfl) hoa ?_
    intro oa s hoa S
    repeat kc_bool
    have e1 : numOf (ns.take (k + 1)) = numOf (ns.take k) * 256 + i := by
      rw [List.take_add_one, hin]
      simp [numOf, List.foldl_append]
    rw [← e1] at hoa
    exact ⟨.inl rfl, J2, upd m2 (Str.ofString "octet") (.int i ti), _, .refl _, ⟨hle2, hrow, ⟨tm, hmany⟩, oa, _, hoa, rfl⟩, S⟩
  rintro J2 m2 news2 s hle2 ⟨_, hrow, ⟨tm, hmany⟩, oa, tn, hoa, rfl⟩ S
  rw [hlen, List.take_length] at hoa
  have hr2 := hle2 _ _ (hle1 _ _ hr)
  repeat kc_bool
  refine S.mul (.of_left (by decide)) ?_
  intro _ s S
  repeat kc_bool
  refine S.lenL (S.get hr2) (by omega) ?_
  intro _ s S
  refine S.mul (.of_left (by decide)) ?_
  intro _ s S
  repeat kc_bool
  have hmn : manyN ns.length ≤ 7 ∧ 1 ≤ manyN ns.length ∧ 8 * ns.length ≤ 6 * manyN ns.length ∧ 6 * manyN ns.length ≤ 8 * ns.length + 5 := by unfold manyN; omega
  refine S.pow (by omega) (by omega) (by decide) ?_
  intro _ s S
  have e2 : (6 * ((manyN ns.length : Nat) : Int) - 8 * (vs.length : Int)).toNat = 6 * manyN ns.length - 8 * ns.length := by omega
  rw [e2]
  refine S.mul (.of_right (bits2 (by omega))) ?_
  intro _ s S
  repeat kc_bool
  refine S.stc (kind_of hsc rfl) (by rw [hce]; rfl) hoa ?_
  intro oa s hoa S
  have hoa : oa.data = .cell (some (.int (shifted ns) _)) := hoa
  repeat kc_bool
  with_reducible refine mStr PySem.F.slot_str_join PySem.F.type_str_join ?_
  repeat kc_bool
  refine listcomp_ (cl := [(Str.ofString "signs", L + 1), (Str.ofString "number", L + 1 + 1)]) (by unfold closureFor cellOf; rw [hce]; rfl) rfl (by decide) (fun _ => rfl) ?_
  repeat kc_bool
  refine S.neg ?_
  intro _ s S
  repeat kc_bool
  refine S.neg ?_
  intro _ s S
  repeat kc_bool
  refine S.range3 (by decide) (PyProof.noPylong_small (by decide)) ?_
  intro rr J3 s hle3 hrr S
  refine S.compRange (N := manyN ns.length) hrr (small_range (by omega) (by omega) (.inr rfl)) ?_ (by rw [sizeLine_eq]; omega) (by decide) rfl rfl (fun k J' news' ys => J3.le J' ∧ news' = (L + 1 + 1, oa) :: (L + 1, ob) :: news ∧ StrsAre ys ((List.range k).map fun i => Txt.item sgnS (((shifted ns).fdiv (64 ^ (manyN ns.length - 1 - i))).fmod 64))) ⟨.refl _, rfl, .nil⟩ ?_ ?_
  · unfold Builtin.Range.rangeSize
    rw [if_neg (by decide), if_pos (by omega)]
    simp
  · rintro k t1 J4 mC news' ys D e cenv Fs2 s E hk hle ⟨hle4, rfl, hys⟩ hsc2 hce S
    have hsc := hsc2.trans (relabel_eq hsc)
    repeat kc_bool
    refine S.pow (by omega) (by omega) (by decide) ?_
    intro _ s S
    have ek : (((manyN ns.length : Nat) : Int) - 1 + (k : Int) * -1).toNat = manyN ns.length - 1 - k := by omega
    rw [ek]
    refine S.div ?_ (noP64 _ _ (by omega)) ?_
    · exact Int.ne_of_gt (Int.pow_pos (by decide))
    intro _ s S
    repeat kc_bool
    refine S.mod (by decide) ?_
    intro t2 s S
    have h64 := Int.fmod_nonneg_of_pos ((shifted ns).fdiv (64 ^ (manyN ns.length - 1 - k))) (by decide : (0 : Int) < 64)
    have h64' := Int.fmod_lt_of_pos ((shifted ns).fdiv (64 ^ (manyN ns.length - 1 - k))) (by decide : (0 : Int) < 64)
    refine S.sItem (x := sgnS) h64 (show _ < ((64 : Nat) : Int) from h64') (by omega) ?_ (by with_unfolding_all rfl) (fun _ => by with_unfolding_all rfl)
    intro t3 s S
    refine ⟨J4, _, _, .refl _, ⟨hle4, rfl, ?_⟩, S⟩
    rw [List.range_succ, List.map_append]
    exact strs_snoc hys
  rintro D e1 ys J4 news' s hle4 ⟨_, rfl, hys⟩ hlen4 S
  repeat kc_bool
  have hlens : (((List.range (manyN ns.length)).map fun i => Txt.item sgnS (((shifted ns).fdiv (64 ^ (manyN ns.length - 1 - i))).fmod 64)).map (·.length)).sum ≤ 7 := by
    refine Nat.le_trans (sum_len1 fun i => ?_) hmn.1
    exact item_len _ _
  refine S.sJoin S.hd hys ?_ ?_
  · simp only [List.length_map, List.length_range]
    show _ + _ * 0 ≤ _
    omega
  intro _ s S
  repeat kc_bool
  refine S.neg ?_
  intro _ s S
  repeat kc_bool
  refine S.mod (by decide) ?_
  intro t2 s S
  have h4 := Int.fmod_nonneg_of_pos (-((manyN ns.length : Nat) : Int)) (by decide : (0 : Int) < 4)
  have h4' := Int.fmod_lt_of_pos (-((manyN ns.length : Nat) : Int)) (by decide : (0 : Int) < 4)
  refine S.sRep (c := 61) h4 (by omega) ?_
  intro _ s S
  refine S.sAdd ?_ ?_
  · have h1 := join_len (Str.ofString "") ((List.range (manyN ns.length)).map fun i => Txt.item sgnS (((shifted ns).fdiv (64 ^ (manyN ns.length - 1 - i))).fmod 64))
    have h2 : (⟨(List.replicate ((-((manyN ns.length : Nat) : Int)).fmod 4).toNat 61).toArray⟩ : Str).length = ((-((manyN ns.length : Nat) : Int)).fmod 4).toNat := by
      show Array.size _ = _
      simp
    rw [show (Str.ofString "").length = 0 from rfl, Nat.mul_zero] at h1
    rw [h2, sizeLine_eq]
    omega
  intro _ s S
  exact ⟨_, _, _, S, fun S => h _ _ _ (((hle1.trans hle2).trans hle3).trans hle4) S.drop.drop.drop⟩
end
-- text FE
section
variable {w : World} {n : Nat} {A : Around} {env : Env} {o₀ : OsState} {Fs J : Know} {m : Loc} {news : Led} {s : Shared} {E : Value → Shared → Prop}
theorem iteT {p q : Prop} {d : Decidable (true = true)} (h : p) : @ite Prop (true = true) d p q := by split; exact h; contradiction
theorem iteF {p q : Prop} {d : Decidable (false = true)} (h : q) : @ite Prop (false = true) d p q := by split; contradiction; exact h
theorem Sit.fresh (S : Sit w n A env o₀ Fs J m news s) {s' : Shared} {a : Addr} (h : s.heap.get? a = none) (h' : ∃ o, s'.heap.get? a = some o) : Loose env Fs J news s' a := by
  obtain ⟨oL, _, _, hL, _⟩ := S.ns
  refine ⟨h', fun e => ?_, fun hm => ?_, fun o hj => ?_, fun o hf => ?_⟩
  · rw [e, hL] at h; cases h
  · obtain ⟨p, hp, e⟩ := List.mem_map.mp hm
    have := (S.nw p hp).1
    rw [e, h] at this; cases this
  · rw [S.get hj] at h; cases h
  · rw [(S.lf a o hf).1] at h; cases h
theorem Sit.aside2 (S : Sit w n A env o₀ Fs J m news s) {I I' : Addr} (hI : Loose env Fs J news s I) (hI' : Loose env Fs J news s I') {s' : Shared} (hk : ∀ b o, b ≠ I → b ≠ I' → s.heap.get? b = some o → s'.heap.get? b = some o)
    (hos : s'.os = s.os) (hb : AllBare s'.gens) : Sit w n A env o₀ Fs J m news s' := by
  refine S.move' ?_ (fun a o h => hk a o (fun e => hI.2.2.2.2 o (e ▸ h)) (fun e => hI'.2.2.2.2 o (e ▸ h)) (S.lf a o h).1) (fun a o h => hk a o (fun e => hI.2.2.2.1 o (e ▸ h)) (fun e => hI'.2.2.2.1 o (e ▸ h)) (S.lj a o h).1)
    (fun p hp => hk _ _ (fun e => hI.2.2.1 (by rw [← e]; exact List.mem_map_of_mem hp)) (fun e => hI'.2.2.1 (by rw [← e]; exact List.mem_map_of_mem hp)) (S.nw p hp).1)
    (fun p hp => .inl (List.mem_map_of_mem hp)) S.nd hos hb
  exact S.ns.at' fun o e => hk _ o (Ne.symm hI.2.1) (Ne.symm hI'.2.1) e
theorem Loose.add {a b : Addr} {o : Obj} (h : Loose env Fs J news s a) (hne : a ≠ b) : Loose env (Fs.add b o) J news s a :=
  ⟨h.1, h.2.1, h.2.2.1, h.2.2.2.1, fun x hx => hx.elim (h.2.2.2.2 x) fun q => hne q.1⟩
theorem Sit.forEnum {xi xc : Str} {pk pv pt : Pos} {x1 : Nat} {body rest : List Stmt} {Q : Flow → Shared → Prop} {l : Addr} {vs : List Value} {e₀ : Nat} (S : Sit w n A env o₀ Fs J m news s) (hxi : env.kindOf xi = some .local) (hxc : env.kindOf xc = some .local) (hl : J l (lO vs e₀))
    (Inv : Nat → Know → Loc → Led → Prop) (h0 : Inv 0 J m news)
    (hbody : ∀ k v t J' m' news' Fs' s' E', vs[k]? = some v → J.le J' → Inv k J' m' news' → Sit w n A env o₀ Fs' J' (upd (upd m' xi (.int k t)) xc v) news' s' →
      wpAny (MM w) A (execs body env) (fun f s'' => (f = .next ∨ f = .cont) ∧ ∃ J'' m'' news'', J'.le J'' ∧ Inv (k + 1) J'' m'' news'' ∧ Sit w n A env o₀ Fs' J'' m'' news'' s'') E' s')
    (after : ∀ J' m' news' s', J.le J' → Inv vs.length J' m' news' → Sit w n A env o₀ Fs J' m' news' s' → wpAny (MM w) A (execs rest env) Q E s') :
    wpAny (MM w) A (PySem.call (.type "enumerate") [.ref l]) (fun x s₁ => wpAny (MM w) A (pyIter x) (fun it s₂ => codeAny (MM w) A (.forLoop (.Tuple [.Name xi pk, .Name xc pv] x1 pt) it body [] env) (fun r s' => match r with
      | .ok f => (match f with | .next => wpAny (MM w) A (execs rest env) Q E s' | f => Q f s')
      | .error e => cameBackBy (MM w) A env E e s') s₂) E s₁) E s := by
  refine call_enumerate_list (items := vs.toArray) ⟨_, S.get hl, rfl, e₀, rfl⟩ fun h' he hit hsz hk => ?_
  have hlt := Heap.lt_size (S.get hl)
  have none_of : ∀ a, s.heap.objs.size ≤ a → s.heap.get? a = none := fun a ha => by
    cases q : s.heap.get? a with
    | none => rfl
    | some y => exact absurd (Heap.lt_size q) (Nat.not_lt.mpr ha)
  have S1 := S.keeps (k := s.toks) hk
  have hE : Loose env Fs J news { s with heap := h', toks := s.toks } (s.heap.objs.size + 1) := S.fresh (none_of _ (Nat.le_succ _)) ⟨_, he⟩
  have hI : Loose env Fs J news { s with heap := h', toks := s.toks } s.heap.objs.size := S.fresh (none_of _ (Nat.le_refl _)) (let ⟨o, h, _⟩ := hit; ⟨o, h⟩)
  have W := WalksT.enumerate (prog := prg) (w := w) (A := A) S.hh (s.heap.objs.size + 1) s.heap.objs.size l (Nat.succ_ne_self _) (Nat.ne_of_lt (Nat.lt_succ_of_lt hlt)) (Nat.ne_of_lt hlt) vs.toArray
  have hsz' : vs.toArray.size = vs.length := List.size_toArray
  rw [hsz'] at W
  have hei : s.heap.objs.size + 1 ≠ s.heap.objs.size := Nat.succ_ne_self _
  generalize s.heap.objs.size + 1 = e at *
  generalize s.heap.objs.size = it at *
  have hst : (∃ old, IsEnum h' e it 0 old) ∧ h'.IsListIter it l 0 ∧ h'.IsList l vs.toArray := ⟨⟨_, he⟩, hit, ⟨_, S1.get hl, rfl, e₀, rfl⟩⟩
  refine W.self 0 _ _ _ hst ?_
  refine codeAny_forLoop_any (fun j s => ∃ k J' m' news', j = vs.length - k ∧ k ≤ vs.length ∧ J.le J' ∧ Inv k J' m' news' ∧ Sit w n A env o₀ Fs J' m' news' s ∧ Loose env Fs J' news' s e ∧ Loose env Fs J' news' s it ∧
    ((∃ old, IsEnum s.heap e it k old) ∧ s.heap.IsListIter it l k ∧ s.heap.IsList l vs.toArray)) ?_ vs.length ⟨0, J, m, news, rfl, Nat.zero_le _, .refl _, h0, S1, hE, hI, hst⟩
  rintro j s ⟨k, J', m', news', rfl, hkN, hle, hinv, S, hE, hI, hst⟩
  rcases Nat.lt_or_ge k vs.length with hk' | hk'
  · refine W.item k s _ _ hk' hst fun T vals h₁ tk₁ hPt _ hT hMid hk₁ => ?_
    obtain ⟨t, x, hx, rfl⟩ := hPt
    refine W.go _ x1 pt k T _ _ _ hMid fun h₂ hst₂ hk₂ => ?_
    have ht₂ : h₂.IsTuple T #[.int k t, x] := hT.at fun o e => hk₂ T o (W.apart k T h₁ hMid) e
    refine wpAny_assign_Tuple S.hh ht₂ rfl rfl fun h₃ hx₃ => ?_
    replace hx₃ : Heap.ExtBut h₂.objs.size h₂ h₃ := hx₃
    have up₃ : ∀ b o, h₂.get? b = some o → h₃.get? b = some o := fun b o x => hx₃ b o (Nat.ne_of_lt (Heap.lt_size x)) x
    obtain ⟨⟨old, hst2e⟩, hst2i, hst2l⟩ := hst₂
    obtain ⟨oi, hoi, hoi'⟩ := hst2i
    have S3 : Sit w n A env o₀ Fs J' m' news' { s with heap := h₃, toks := tk₁ } := S.aside2 hE hI (s' := { s with heap := h₃, toks := tk₁ }) (fun b o hb hb' x => up₃ b o (hk₂ b o (by simp [hb, hb']) (hk₁ b o (by simp [hb, hb']) x))) rfl S.bare
    have hE3 : Loose env Fs J' news' { s with heap := h₃, toks := tk₁ } e := hE.step ⟨_, up₃ _ _ hst2e⟩
    have hI3 : Loose env Fs J' news' { s with heap := h₃, toks := tk₁ } it := hI.step ⟨_, up₃ _ _ hoi⟩
    have S4 := (S3.guard hE3 (up₃ _ _ hst2e)).guard (hI3.add (Ne.symm hei)) (up₃ _ _ hoi)
    simp only [eachN, each0, List.map_cons, List.map_nil]
    refine inOrder_cons (wpAny_assign_Name (S4.st_ hxi fun s S => inOrder_cons (wpAny_assign_Name (S.st_ hxc fun s S => inOrder_nil ?_))))
    refine wpAny_mono (hbody k x t J' m' news' _ s _ (by simpa using hx) hle hinv S) (fun f s₃ h => ?_) fun _ _ e => e
    obtain ⟨hf, J'', m'', news'', hle', hinv', G⟩ := h
    obtain ⟨G, hIg, hIget⟩ := G.unguard fun x q => q.elim (hI3.2.2.2.2 x) fun q => hei q.1.symm
    obtain ⟨G, hEg, hEget⟩ := G.unguard hE3.2.2.2.2
    have hIg' : Loose env Fs J'' news'' s₃ it := ⟨hIg.1, hIg.2.1, hIg.2.2.1, hIg.2.2.2.1, hI3.2.2.2.2⟩
    have fin : ∃ m_1, m_1 < vs.length - k ∧ ∃ k J' m' news', m_1 = vs.length - k ∧ k ≤ vs.length ∧ J.le J' ∧ Inv k J' m' news' ∧ Sit w n A env o₀ Fs J' m' news' s₃ ∧ Loose env Fs J' news' s₃ e ∧ Loose env Fs J' news' s₃ it ∧
        ((∃ old, IsEnum s₃.heap e it k old) ∧ s₃.heap.IsListIter it l k ∧ s₃.heap.IsList l vs.toArray) :=
      ⟨vs.length - (k + 1), by omega, k + 1, J'', m'', news'', rfl, hk', hle.trans hle', hinv', G, hEg, hIg', ⟨old, hEget⟩, ⟨oi, hIget, hoi'⟩, ⟨_, G.get (hle' _ _ (hle _ _ hl)), rfl, e₀, rfl⟩⟩
    rcases hf with rfl | rfl <;> exact fin
  · obtain rfl : k = vs.length := by omega
    refine W.done s _ _ hst fun h₁ tk hk₁ => ?_
    refine wpAny_execs_nil (after J' m' news' _ hle hinv (S.aside2 hE hI (s' := { s with heap := h₁, toks := tk }) (fun b o hb hb' x => hk₁ b o (by simp [hb, hb']) x) rfl S.bare))
end
-- text FO
section
variable {w : World} {n : Nat} {A : Around} {env : Env} {o₀ : OsState} {Fs J : Know} {m : Loc} {news : Led} {s : Shared} {E : Value → Shared → Prop}
theorem Sit.lAdd (S : Sit w n A env o₀ Fs J m news s) {a b : Addr} {vs us : List Value} {e e' : Nat} {Q : Value → Shared → Prop} (ha : s.heap.get? a = some (lO vs e)) (hb : s.heap.get? b = some (lO us e')) (hz : vs.length + us.length ≤ sizeLine)
    (h : ∀ D s', Sit w n A env o₀ Fs J m ((D, lO (vs ++ us) 0) :: news) s' → Q (.ref D) s') : wpAny (MM w) A (binaryOp .Add (.ref a) (.ref b)) Q E s := by
  refine P.add_list (items := vs.toArray) (items2 := us.toArray) ha hb ?_ (by simpa using hz)
  have := h _ _ (S.push (k := s.toks) (lO (vs ++ us) 0))
  simpa using this
theorem nextTo {Inv : Know → Loc → Led → Prop} {J' : Know} (S : Sit w n A env o₀ Fs J m news s) (hle : J'.le J) (hi : Inv J m news) :
    (Flow.next = .next ∨ Flow.next = .cont) ∧ ∃ J'' m'' news'', J'.le J'' ∧ Inv J'' m'' news'' ∧ Sit w n A env o₀ Fs J'' m'' news'' s := ⟨.inl rfl, J, m, news, hle, hi, S⟩
structure FSt where
  lines : List Str
  line : Str
  size : Int
noncomputable def blankOf (bare : Bool) (k : Nat) : Str := if bare = true ∧ k = 0 then Str.ofString "" else Str.ofString " "
noncomputable def foldStep (width : Int) (bare : Bool) (st : FSt) (k : Nat) (word : Str) : FSt :=
  if 0 < st.size ∧ width < st.size + ((blankOf bare k ++ word).length : Nat) then ⟨st.lines ++ [st.line], Str.ofString "" ++ Str.ofString " " ++ word, 0 + ((Str.ofString " " ++ word).length : Nat)⟩
  else ⟨st.lines, st.line ++ blankOf bare k ++ word, st.size + ((blankOf bare k ++ word).length : Nat)⟩
noncomputable def foldAt (head width : Int) (bare : Bool) (ws : List Str) : Nat → FSt
  | 0 => ⟨[], Str.ofString "", head⟩
  | k + 1 => foldStep width bare (foldAt head width bare ws k) k (ws.getD k Str.empty)
noncomputable def folded (head width : Int) (bare : Bool) (ws : List Str) : Str := Txt.join (Str.ofString "\n") ((foldAt head width bare ws ws.length).lines ++ [(foldAt head width bare ws ws.length).line])
noncomputable def FN (m' : Loc) (J' : Know) (width : Int) (tw : Tok) (bare : Bool) (st : FSt) : Prop :=
  m' (Str.ofString "width") = some (.int width tw) ∧ m' (Str.ofString "bare") = some (.bool bare) ∧ (∃ la lvs le, m' (Str.ofString "lines") = some (.ref la) ∧ J' la (lO lvs le) ∧ StrsAre lvs st.lines) ∧
    (∃ t, m' (Str.ofString "line") = some (.str st.line t)) ∧ ∃ t, m' (Str.ofString "size") = some (.int st.size t)
theorem slen (x y : Str) : (x ++ y).length = x.length + y.length := by
  show (x.cps ++ y.cps).size = _
  rw [Array.size_append]; rfl
theorem fold_bound {head width : Int} {bare : Bool} {ws : List Str} (hwl : ∀ x ∈ ws, x.length ≤ 100) : ∀ k, k ≤ ws.length → ((foldAt head width bare ws k).lines.map (·.length)).sum + (foldAt head width bare ws k).line.length ≤ 200 * k ∧ (foldAt head width bare ws k).lines.length ≤ k
  | 0, _ => ⟨Nat.le_refl 0, Nat.le_refl _⟩
  | k + 1, hk => by
    have ih := fold_bound (head := head) (width := width) (bare := bare) hwl k (by omega)
    have hx : (ws.getD k Str.empty).length ≤ 100 := by
      rw [List.getD_eq_getElem?_getD, List.getElem?_eq_getElem (by omega)]
      exact hwl _ (List.getElem_mem _)
    have hb : (blankOf bare k).length ≤ 1 := by unfold blankOf; split <;> decide
    show ((foldStep width bare (foldAt head width bare ws k) k (ws.getD k Str.empty)).lines.map _).sum + (foldStep width bare (foldAt head width bare ws k) k (ws.getD k Str.empty)).line.length ≤ _ ∧ (foldStep width bare (foldAt head width bare ws k) k (ws.getD k Str.empty)).lines.length ≤ _
    unfold foldStep
    split
    · simp only [List.map_append, List.sum_append, List.map_cons, List.map_nil, List.sum_cons, List.sum_nil, List.length_append, List.length_cons, List.length_nil, slen]
      have e1 : (Str.ofString "").length = 0 := rfl
      have e2 : (Str.ofString " ").length = 1 := rfl
      omega
    · simp only [slen]
      omega
set_option maxHeartbeats 4000000 in
theorem folded_spec {l : Addr} {vs : List Value} {e : Nat} {ws : List Str} {head width : Int} {bare : Bool} {th tw : Tok} {Q : Value → Shared → Prop} (S : Sit w (n + 1) A env o₀ Fs J m news s) (hl : J l (lO vs e)) (hi : StrsAre vs ws) (hlen : ws.length ≤ 100) (hwl : ∀ x ∈ ws, x.length ≤ 100)
    (h : ∀ t J' s', J.le J' → Sit w (n + 1) A env o₀ Fs J' m news s' → Q (.str (folded head width bare ws) t) s') : wpAny (MM w) A (call (.ref 257) [.ref l, .int head th, .int width tw, .bool bare]) Q E s := by
  ktr_call 257 [(Str.ofString "words", .ref l), (Str.ofString "head", .int head th), (Str.ofString "width", .int width tw), (Str.ofString "bare", .bool bare)]
  refine wpAny_execs_cons (Assign_Tuple_swapped (names := [Str.ofString "lines", Str.ofString "line", Str.ofString "size"]) ?_ (by with_unfolding_all rfl) (by unfold swappedStores Env.blockKind Env.kindOf; rw [hsc]; rfl))
  repeat kc_bool
  refine S.newL (by simp [sizeLine_eq]) ?_
  intro l0 s S
  refine S.keep1 fun J1 hle1 hl0 S => ?_
  repeat kc_bool
  refine S.newT (by simp [sizeLine_eq]) ?_
  intro tp J2 s hle2 htp S
  refine S.unpackT htp rfl ?_
  intro s S
  simp only [List.reverse_cons, List.reverse_nil, List.nil_append, List.cons_append, List.map_cons, List.map_nil]
  repeat kc_bool
  refine wpAny_execs_cons (wpAny_For ?_ (fun _ => rfl))
  repeat kc_bool
  refine S.forEnum (kind_of hsc rfl) (kind_of hsc rfl) (hle2 _ _ (hle1 _ _ hl)) (fun k J' m' news' => J2.le J' ∧ news' = news ∧ FN m' J' width tw bare (foldAt head width bare ws k)) ⟨.refl _, rfl, rfl, rfl, ⟨_, _, _, rfl, hle2 _ _ hl0, .nil⟩, ⟨_, rfl⟩, ⟨_, rfl⟩⟩ ?_ ?_
  · rintro k v tk J3 m3 news3 Fs3 s E hv hle3 ⟨_, rfl, hwd, hba, ⟨la, lvs, le, hla, hJla, hlvs⟩, ⟨tl, hline⟩, ⟨ts, hsize⟩⟩ S
    obtain ⟨x, tx, rfl, hx⟩ := hi.item _ _ hv
    refine wpAny_execs_cons (wpAny_mono (Q := fun f s' => f = .next ∧ ∃ t, Sit w n (A.deeper env) env o₀ Fs3 J3 (upd (upd (upd m3 (Str.ofString "k") (.int k tk)) (Str.ofString "word") (.str x tx)) (Str.ofString "blank") (.str (blankOf bare k) t)) news3 s') ?_ ?_ fun _ _ e => e)
    · repeat kc_bool
      split
      · rename_i hb
        repeat kc_bool
        split
        · rename_i hk0
          repeat kc_bool
          have e1 : blankOf bare k = Str.ofString "" := if_pos ⟨hb, by simpa using hk0⟩
          rw [e1]
          exact ⟨rfl, _, S⟩
        · rename_i hk0
          repeat kc_bool
          have e1 : blankOf bare k = Str.ofString " " := if_neg fun q => hk0 (by simpa using q.2)
          rw [e1]
          exact ⟨rfl, _, S⟩
      · rename_i hb
        repeat kc_bool
        have e1 : blankOf bare k = Str.ofString " " := if_neg fun q => hb q.1
        rw [e1]
        exact ⟨rfl, _, S⟩
    rintro f s ⟨rfl, tb, S⟩
    dsimp only
    have hkl : k ≤ ws.length := Nat.le_of_lt (by rw [← hi.length]; exact (List.getElem?_eq_some_iff.mp hv).1)
    have hbd := fold_bound (head := head) (width := width) (bare := bare) hwl k hkl
    generalize hst : foldAt head width bare ws k = st at *
    have hst1 : foldAt head width bare ws (k + 1) = foldStep width bare st k x := by
      show foldStep _ _ (foldAt head width bare ws k) k (ws.getD k Str.empty) = _
      rw [hst, List.getD_eq_getElem?_getD, hx]; rfl
    have hbl : (blankOf bare k).length ≤ 1 := by unfold blankOf; split <;> decide
    have hxl : x.length ≤ 100 := hwl x (List.mem_of_getElem? hx)
    rw [hst1]
    refine wpAny_execs_cons (wpAny_mono (Q := fun f s' => f = .next ∧ ∃ J' m' st' bl t, Sit w n (A.deeper env) env o₀ Fs3 J' m' news3 s' ∧ J3.le J' ∧ FN m' J' width tw bare st' ∧ m' (Str.ofString "blank") = some (.str bl t) ∧ m' (Str.ofString "word") = some (.str x tx) ∧ bl.length ≤ 1 ∧ st'.line.length ≤ 200 * 100 ∧
      foldStep width bare st k x = ⟨st'.lines, st'.line ++ bl ++ x, st'.size + ((bl ++ x).length : Nat)⟩) ?_ ?_ fun _ _ e => e)
    · repeat kc_bool
      split
      · rename_i hs0
        repeat kc_bool
        refine S.sAdd (by rw [sizeLine_eq]; omega) ?_
        intro _ s S
        repeat kc_bool
        refine S.sLen (by rw [slen]; omega) ?_
        intro _ s S
        repeat kc_bool
        split
        · rename_i hs1
          repeat kc_bool
          refine Assign_Tuple ?_ (by with_unfolding_all rfl) (by unfold swappedStores Env.blockKind Env.kindOf; rw [hsc]; rfl)
          repeat kc_bool
          refine S.newL (by simp [sizeLine_eq]) ?_
          intro l1 s S
          refine S.lAdd (S.get hJla) S.hd (by have := hlvs.length; simp [sizeLine_eq]; omega) ?_
          intro l2 s S
          refine S.keep1 fun J4 hle4 hl2 S => ?_
          replace S := S.drop
          repeat kc_bool
          refine S.newT (by simp [sizeLine_eq]) ?_
          intro tp J5 s hle5 htp S
          refine S.assignT htp rfl rfl ?_
          intro s S
          simp only [eachN, each0, List.map_cons, List.map_nil]
          repeat kc_bool
          refine ⟨rfl, J5, _, ⟨st.lines ++ [st.line], Str.ofString "", 0⟩, Str.ofString " ", _, S, hle4.trans hle5, ⟨hwd, hba, ⟨l2, _, _, rfl, hle5 _ _ hl2, hlvs.append' (.cons _ _ .nil)⟩, ⟨_, rfl⟩, ⟨_, rfl⟩⟩, rfl, rfl, Nat.le_refl 1, Nat.zero_le _, ?_⟩
          exact if_pos ⟨by simpa using hs0, by simpa using hs1⟩
        · rename_i hs1
          repeat kc_bool
          refine ⟨rfl, J3, _, st, blankOf bare k, tb, S, .refl _, ⟨hwd, hba, ⟨la, lvs, le, hla, hJla, hlvs⟩, ⟨tl, hline⟩, ⟨ts, hsize⟩⟩, rfl, rfl, hbl, by omega, ?_⟩
          exact if_neg fun q => hs1 (by simpa using q.2)
      · rename_i hs0
        repeat kc_bool
        refine ⟨rfl, J3, _, st, blankOf bare k, tb, S, .refl _, ⟨hwd, hba, ⟨la, lvs, le, hla, hJla, hlvs⟩, ⟨tl, hline⟩, ⟨ts, hsize⟩⟩, rfl, rfl, hbl, by omega, ?_⟩
        exact if_neg fun q => hs0 (by simpa using q.1)
    rintro f s ⟨rfl, J4, m4, st', bl, t4, S, hle4, ⟨hwd, hba, ⟨la, lvs, le, hla, hJla, hlvs⟩, ⟨tl, hline⟩, ⟨ts, hsize⟩⟩, hblk, hwrd, hbl1, hln1, hstep⟩
    rw [hstep]
    dsimp only
    repeat kc_bool
    refine Assign_Tuple_swapped (names := [Str.ofString "line", Str.ofString "size"]) ?_ (by with_unfolding_all rfl) (by unfold swappedStores Env.blockKind Env.kindOf; rw [hsc]; rfl)
    repeat kc_bool
    refine S.sAdd (by rw [sizeLine_eq]; omega) ?_
    intro _ s S
    repeat kc_bool
    refine S.sAdd (by rw [sizeLine_eq, slen]; omega) ?_
    intro _ s S
    repeat kc_bool
    refine S.sAdd (by rw [sizeLine_eq]; omega) ?_
    intro _ s S
    repeat kc_bool
    refine S.sLen (by rw [slen]; omega) ?_
    intro _ s S
    repeat kc_bool
    refine S.newT (by simp [sizeLine_eq]) ?_
    intro tp J5 s hle5 htp S
    refine S.unpackT htp rfl ?_
    intro s S
    simp only [List.reverse_cons, List.reverse_nil, List.nil_append, List.cons_append, List.map_cons, List.map_nil]
    repeat kc_bool
    exact nextTo S (hle4.trans hle5) ⟨(hle3.trans hle4).trans hle5, rfl, hwd, hba, ⟨la, lvs, le, hla, hle5 _ _ hJla, hlvs⟩, ⟨_, rfl⟩, ⟨_, rfl⟩⟩
  rintro J3 m3 news3 s hle3 ⟨_, rfl, hwd, hba, ⟨la, lvs, le, hla, hJla, hlvs⟩, ⟨tl, hline⟩, ⟨ts, hsize⟩⟩ S
  rw [hi.length] at hlvs hline hsize
  have hbd := fold_bound (head := head) (width := width) (bare := bare) hwl ws.length (Nat.le_refl _)
  repeat kc_bool
  with_reducible refine mStr PySem.F.slot_str_join PySem.F.type_str_join ?_
  repeat kc_bool
  refine S.newL (by simp [sizeLine_eq]) ?_
  intro l1 s S
  refine S.lAdd (S.get hJla) S.hd (by have := hlvs.length; simp [sizeLine_eq]; omega) ?_
  intro l2 s S
  repeat kc_bool
  refine S.sJoin S.hd (hlvs.append' (.cons _ _ .nil)) ?_ ?_
  · simp only [List.map_append, List.sum_append, List.length_append, List.map_cons, List.map_nil, List.sum_cons, List.sum_nil, List.length_cons, List.length_nil]
    rw [show (Str.ofString "\n").length = 1 from rfl]
    omega
  intro _ s S
  exact ⟨_, _, _, S, fun S => h _ _ _ ((hle1.trans hle2).trans hle3) S.drop.drop⟩
end
-- text DE
section
section
open Builtin
theorem dec_entry {c : UInt8} {cs : List UInt8} {t u : Tok} : «bytes.decode» ⟨[.bytes (c :: cs).toArray t, .str (PySem.Str.ofString "ascii") u], []⟩ = (mkStr (PySem.Str.ofString "utf-8") >>= fun _ => mkStr (PySem.Str.ofString "ascii") >>= fun e => mkStr (PySem.Str.ofString "bytes.decode") >>= fun d =>
    call (.builtin "_codecs.decode.text") [.bytes (c :: cs).toArray t, e, .none, d] >>= fun v => ret v) := by kernel_rfl
theorem dec_road {id : String} {b : Array UInt8} : _codecs.decodeRoad id b (PySem.Str.ofString "ascii") none [] = (_codecs.runDecoder id _codecs.asciiDecoder none true b 0 [] >>= fun r => mkStr ⟨r.1⟩) := by kernel_rfl
theorem forIn_up {σ : Type} {f : Nat → σ → Sem (ForInStep σ)} (g : Nat → σ) : ∀ k i, (∀ j, i ≤ j → j < i + k → f j (g j) = pure (.yield (g (j + 1)))) → forIn (List.range' i k) (g i) f = pure (g (i + k))
  | 0, i, _ => rfl
  | k + 1, i, h => by
    rw [List.range'_succ, List.forIn_cons, h i (Nat.le_refl _) (by omega), pure_bind]
    show forIn _ _ _ = _
    rw [forIn_up g k (i + 1) (fun j h1 h2 => h j (by omega) (by omega)), Nat.add_right_comm]; rfl
theorem dec_any {id : String} (bs : List UInt8) (h : ∀ b ∈ bs, b.toNat < 128) (hl : bs.length ≤ 8) : _codecs.runDecoder id _codecs.asciiDecoder none true bs.toArray 0 [] = pure ((bs.map UInt8.toNat).toArray, bs.length) := by
  unfold _codecs.runDecoder
  simp only [Std.Legacy.Range.forIn_eq_forIn_range']
  have e : ([:bs.toArray.size] : Std.Legacy.Range).size = bs.length := by simp [Std.Legacy.Range.size]
  refine (congrArg (· >>= _) ((congrArg (fun k => forIn (List.range' 0 k) _ _) e).trans (forIn_up (fun j => ((j, ((bs.take j).map UInt8.toNat).toArray, {}) : Nat × Array Nat × _codecs.Faults)) bs.length 0 fun j _ h2 => ?_))).trans ?_
  · have h2 : j < bs.length := by omega
    have hb : bs.toArray.getD j 0 = bs[j] := by simp [h2]
    have h3 := h _ (List.getElem_mem h2)
    rw [if_neg (by rw [sizeLine_eq, List.size_toArray, List.length_map, List.length_take]; omega), if_neg (by rw [List.size_toArray]; omega)]
    have hf : _codecs.asciiDecoder.find true bs.toArray j = .text [bs[j].toNat] (j + 1) := by
      show (if (bs.toArray.getD j 0).toNat < 128 then _ else _) = _
      rw [hb, if_pos h3]; rfl
    rw [hf]
    show pure (ForInStep.yield (j + 1, _ ++ [bs[j].toNat].toArray, _)) = _
    rw [List.append_toArray, List.take_succ_eq_append_getElem h2, List.map_append]
    rfl
  · rw [pure_bind, Nat.zero_add, List.take_length]
theorem dec_text {b : Array UInt8} {x : PySem.Str} {n : Nat} {t t1 t2 : Tok} {d : PySem.Str} (hd : ∀ id, _codecs.runDecoder id _codecs.asciiDecoder none true b 0 [] = pure (x.cps, n)) :
    Meets («_codecs.decode.text» ⟨[.bytes b t, .str (PySem.Str.ofString "ascii") t1, .none, .str d t2], []⟩) (fun _ R s => x.length ≤ sizeLine ∧ R (.ok (.ret (.str x s.toks))) { s with toks := s.toks + 1 }) := by
  refine .of_wp fun prog w A R s hS => ?_
  obtain ⟨hsz, h⟩ := hS
  show wpAny _ _ (Bytes.bytesLike _ (.bytes b t) >>= fun r => _) _ _ s
  refine wpAny_bind (wpAny_of_eq KBd.like_eq ?_)
  refine wpAny_bind (wpAny_of_eq KBd.held_eq ?_)
  show wpAny _ _ (_codecs.decodeRoad _ b (PySem.Str.ofString "ascii") none [] >>= fun v => _) _ _ s
  rw [dec_road, hd]
  refine wpAny_bind (wpAny_bind (wpAny_pure ?_))
  exact wpAny_mkStr (wpAny_pure ⟨_, rfl, h⟩) hsz
theorem dec_meets {c : UInt8} {cs : List UInt8} {x : PySem.Str} {n : Nat} {t u : Tok} (hd : ∀ id, _codecs.runDecoder id _codecs.asciiDecoder none true (c :: cs).toArray 0 [] = pure (x.cps, n)) :
    Meets («bytes.decode» ⟨[.bytes (c :: cs).toArray t, .str (PySem.Str.ofString "ascii") u], []⟩) (fun _ R s => x.length ≤ sizeLine ∧ ∀ t' k, R (.ok (.ret (.str x t'))) { s with toks := k }) := by
  refine .of_wp fun prog w A R s hS => ?_
  obtain ⟨hsz, h⟩ := hS
  rw [dec_entry]
  refine wpAny_bind (wpAny_mkStr ?_ (by decide))
  refine wpAny_bind (wpAny_mkStr ?_ (by decide))
  refine wpAny_bind (wpAny_mkStr ?_ (by decide))
  exact wpAny_bind (call_function_meets KBd.kind_text KBd.plain_text KBd.entry_text (KBd.args_text _ _ _ _) (dec_text hd) ⟨hsz, wpAny_pure ⟨_, rfl, h _ _⟩⟩)
theorem dec_args (a b : Value) : argsOk "bytes.decode" ⟨[a, b], []⟩ := by unfold argsOk; kernel_rfl
end
variable {w : World} {n : Nat} {A : Around} {env : Env} {o₀ : OsState} {Fs J : Know} {m : Loc} {news : Led} {s : Shared} {E : Value → Shared → Prop}
theorem Sit.decode (S : Sit w n A env o₀ Fs J m news s) {c : UInt8} {cs : List UInt8} {x : Str} {k : Nat} {t u : Tok} {Q : Value → Shared → Prop} (hd : ∀ id, Builtin._codecs.runDecoder id Builtin._codecs.asciiDecoder none true (c :: cs).toArray 0 [] = pure (x.cps, k)) (hsz : x.length ≤ 16777216)
    (h : ∀ t' s', Sit w n A env o₀ Fs J m news s' → Q (.str x t') s') : wpAny (MM w) A (PySem.call (.builtin "bytes.decode") [.bytes (c :: cs).toArray t, .str (Str.ofString "ascii") u]) Q E s :=
  call_meets FB.slot_bytes_decode (typeIs_bytes _ _ _) FB.entry_bytes_decode (dec_args _ _) (dec_meets hd) ⟨by rw [sizeLine_eq]; exact hsz, fun t' k => h _ _ (S.toks k)⟩
theorem Sit.bytesOf (S : Sit w n A env o₀ Fs J m news s) {l : Addr} {vs : List Value} {e : Nat} {ns : List Int} {Q : Value → Shared → Prop} (hl : s.heap.get? l = some (lO vs e)) (hi : IntsAre vs ns) (hr : ∀ n ∈ ns, 0 ≤ n ∧ n < 256) (hz : vs.length ≤ sizeLine)
    (h : ∀ t s', Sit w n A env o₀ Fs J m news s' → Q (.bytes (byteArr ns) t) s') : wpAny (MM w) A (PySem.call (.type "bytes") [.ref l]) Q E s :=
  call_bytes_ints ⟨_, hl, rfl, e, rfl⟩ hi hr hz S.hh fun h' t k hk => h t _ (S.keeps (k := k) hk)
end
-- text BQ
section
variable {w : World} {n : Nat} {A : Around} {env : Env} {o₀ : OsState} {Fs J : Know} {m : Loc} {news : Led} {s : Shared} {E : Value → Shared → Prop}
theorem buffer_spec {b : Array UInt8} {t : Tok} {Q : Value → Shared → Prop} (S : Sit w (n + 1) A env o₀ Fs J m news s)
    (h : ∀ s', Sit w (n + 1) A env o₀ Fs J m news s' → Q (.bytes b t) s') : wpAny (MM w) A (call (.ref 189) [.bytes b t]) Q E s := by
  ktr_call 189 [(Str.ofString "data", .bytes b t)]
  repeat kc_bool
  refine call_type_of (typeIs_bytes _ _ _) (by decide) ?_
  repeat kc_bool
  refine wpAny_is_self rfl ?_
  repeat kc_bool
  exact ⟨_, _, _, S, fun S => h _ S⟩
theorem truth_spec {Q : Value → Shared → Prop} (S : Sit w (n + 1) A env o₀ Fs J m news s)
    (h : ∀ s', Sit w (n + 1) A env o₀ Fs J m news s' → Q (.bool false) s') : wpAny (MM w) A (call (.ref 196) [.bool false]) Q E s := by
  ktr_call 196 [(Str.ofString "x", .bool false)]
  repeat kc_bool
  refine call_type_of (Tx := "bool") rfl (by decide) ?_
  repeat kc_bool
  refine wpAny_is_other rfl (by decide) ?_
  repeat kc_bool
  refine wpAny_is_self rfl ?_
  repeat kc_bool
  exact ⟨_, _, _, S, fun S => h _ S⟩
noncomputable def alphaB : List UInt8 := [65, 66, 67, 68, 69, 70, 71, 72, 73, 74, 75, 76, 77, 78, 79, 80, 81, 82, 83, 84, 85, 86, 87, 88, 89, 90, 97, 98, 99, 100, 101, 102, 103, 104, 105, 106, 107, 108, 109, 110, 111, 112, 113, 114, 115, 116, 117, 118, 119, 120, 121, 122, 48, 49, 50, 51, 52, 53, 54, 55, 56, 57, 43, 47]
noncomputable def codeB (i : Int) : Int := ((alphaB.getD i.toNat 0).toNat : Nat)
structure BS where
  out : List Int
  lb : Int
  lc : Int
noncomputable def bEmit (st : BS) : BS := ⟨st.out ++ [codeB ((st.lc / 2 ^ (st.lb - 6).toNat) % 64)], st.lb - 6, st.lc⟩
noncomputable def drain : Nat → BS → BS
  | 0, st => st
  | k + 1, st => if 6 ≤ st.lb then drain k (bEmit st) else st
noncomputable def pushB (st : BS) (b : Int) : BS := drain 2 ⟨st.out, st.lb + 8, (st.lc * 256 + b) % 65536⟩
noncomputable def b64raw (ns : List Int) : BS := ns.foldl pushB ⟨[], 0, 0⟩
noncomputable def b64fin (st : BS) : List Int := if st.lb = 2 then st.out ++ [codeB (st.lc % 4 * 16), 61, 61] else if st.lb = 4 then st.out ++ [codeB (st.lc % 16 * 4), 61] else st.out
theorem codeB_bd (i : Int) : 0 ≤ codeB i ∧ codeB i < 256 := by
  have := (alphaB.getD i.toNat 0).toNat_lt
  unfold codeB
  omega
theorem and_mod {x : Int} {k : Nat} (hx : 0 ≤ x) : Builtin.bitAnd x ((2 ^ k - 1 : Nat) : Int) = x % (2 ^ k : Nat) := by
  rw [bitAnd_pp hx (by omega)]
  rw [show (((2 ^ k - 1 : Nat) : Int)).toNat = 2 ^ k - 1 from rfl, Nat.and_two_pow_sub_one_eq_mod, Int.natCast_emod, Int.toNat_of_nonneg hx]
theorem or_add {a b : Int} (ha : 0 ≤ a) (hb : 0 ≤ b) (hb2 : b < 256) : Builtin.bitOr (a * 2 ^ (8 : Int).toNat) b = a * 256 + b := by
  rw [bitOr_and, show (2 : Int) ^ (8 : Int).toNat = 256 from rfl, bitAnd_pp (by omega) hb]
  have : (a * 256).toNat &&& b.toNat = 0 := by
    apply Nat.eq_of_testBit_eq
    intro i
    rw [Nat.testBit_and, Nat.zero_testBit]
    by_cases hi : i < 8
    · have : (a * 256).toNat = 2 ^ 8 * a.toNat := by omega
      rw [this, Nat.testBit_two_pow_mul]
      simp; omega
    · have : b.toNat < 2 ^ i := Nat.lt_of_lt_of_le (show b.toNat < 2 ^ 8 by omega) (Nat.pow_le_pow_right (by decide) (by omega))
      rw [Nat.testBit_lt_two_pow this]
      simp
  rw [this]; simp
noncomputable def BSok (st : BS) : Prop := (st.lb = 0 ∨ st.lb = 2 ∨ st.lb = 4) ∧ 0 ≤ st.lc ∧ st.lc < 65536 ∧ ∀ x ∈ st.out, 0 ≤ x ∧ x < 256
theorem emit_ok {st : BS} (h : ∀ x ∈ st.out, 0 ≤ x ∧ x < 256) : ∀ x ∈ (bEmit st).out, 0 ≤ x ∧ x < 256 := fun x hx => by
  rcases List.mem_append.mp hx with hx | hx
  · exact h x hx
  · rw [List.mem_singleton.mp hx]; exact codeB_bd _
theorem pushB_ok {st : BS} {b : Int} (h : BSok st) : BSok (pushB st b) := by
  obtain ⟨hlb, h0, h1, ho⟩ := h
  have hm0 : 0 ≤ (st.lc * 256 + b) % 65536 := Int.emod_nonneg _ (by decide)
  have hm1 : (st.lc * 256 + b) % 65536 < 65536 := Int.emod_lt_of_pos _ (by decide)
  have e1 := emit_ok (st := ⟨st.out, st.lb + 8, (st.lc * 256 + b) % 65536⟩) ho
  have e2 := emit_ok e1
  unfold pushB
  rw [drain, if_pos (by show 6 ≤ st.lb + 8; omega), drain]
  rcases hlb with hlb | hlb | hlb
  · rw [if_neg (by show ¬ 6 ≤ st.lb + 8 - 6; omega)]
    exact ⟨.inr (.inl (by show st.lb + 8 - 6 = 2; omega)), hm0, hm1, e1⟩
  · rw [if_neg (by show ¬ 6 ≤ st.lb + 8 - 6; omega)]
    exact ⟨.inr (.inr (by show st.lb + 8 - 6 = 4; omega)), hm0, hm1, e1⟩
  · rw [if_pos (by show 6 ≤ st.lb + 8 - 6; omega), drain]
    exact ⟨.inl (by show st.lb + 8 - 6 - 6 = 0; omega), hm0, hm1, e2⟩
theorem drain_len : ∀ k (st : BS), (drain k st).out.length ≤ st.out.length + k
  | 0, _ => Nat.le_refl _
  | k + 1, st => by
    rw [drain]
    split
    · refine Nat.le_trans (drain_len k (bEmit st)) ?_
      simp [bEmit]; omega
    · omega
theorem raw_ok (ns : List Int) : ∀ k, BSok (b64raw (ns.take k)) ∧ (b64raw (ns.take k)).out.length ≤ 2 * k
  | 0 => ⟨⟨.inl rfl, Int.le_refl 0, show (0 : Int) < 65536 by decide, fun x h => (nomatch h)⟩, Nat.le_refl 0⟩
  | k + 1 => by
    have ih := raw_ok ns k
    rw [List.take_add_one]
    cases ns[k]? with
    | none => simp only [Option.toList, List.append_nil]; exact ⟨ih.1, by omega⟩
    | some b =>
      have e : b64raw (ns.take k ++ [b]) = pushB (b64raw (ns.take k)) b := by unfold b64raw; rw [List.foldl_append]; rfl
      show BSok (b64raw (ns.take k ++ [b])) ∧ (b64raw (ns.take k ++ [b])).out.length ≤ _
      rw [e]
      refine ⟨pushB_ok ih.1, Nat.le_trans (drain_len 2 _) ?_⟩
      show (b64raw (ns.take k)).out.length + 2 ≤ _
      omega
theorem Sit.forBytes {x : Str} {px : Pos} {body rest : List Stmt} {Q : Flow → Shared → Prop} {b : Array UInt8} {tb : Tok} (S : Sit w n A env o₀ Fs J m news s) (hx : env.kindOf x = some .local) (Inv : Nat → Know → Loc → Led → Prop)
    (h0 : Inv 0 J m news)
    (hbody : ∀ k c t J' m' news' Fs' s' E', b[k]? = some c → J.le J' → Inv k J' m' news' → Sit w n A env o₀ Fs' J' (upd m' x (.int (c.toNat : Nat) t)) news' s' →
      wpAny (MM w) A (execs body env) (fun f s'' => (f = .next ∨ f = .cont) ∧ ∃ J'' m'' news'', J'.le J'' ∧ Inv (k + 1) J'' m'' news'' ∧ Sit w n A env o₀ Fs' J'' m'' news'' s'') E' s')
    (after : ∀ J' m' news' s', J.le J' → Inv b.size J' m' news' → Sit w n A env o₀ Fs J' m' news' s' → wpAny (MM w) A (execs rest env) Q E s') :
    wpAny (MM w) A (pyIter (.bytes b tb)) (fun it s₂ => codeAny (MM w) A (.forLoop (.Name x px) it body [] env) (fun r s' => match r with
      | .ok f => (match f with | .next => wpAny (MM w) A (execs rest env) Q E s' | f => Q f s')
      | .error e => cameBackBy (MM w) A env E e s') s₂) E s := by
  refine KBw.pyIter_bytes ?_
  have S1 := S.push (k := s.toks) { cls := .type "bytes_iterator", data := .fields #[.bytes b tb, .int 0 0] }
  obtain ⟨S2, hI⟩ := S1.loosen
  refine S2.for_ hx (KBw.walks (prog := prg) (w := w) S.hh s.heap.objs.size b tb) (by simp) (fun b hb => .inl (by simpa using hb)) (fun k h st => let ⟨o, ho, _⟩ := st; ⟨o, ho⟩) hI ⟨_, S1.hd, rfl, rfl⟩ Inv h0 (fun k v J' m' news' Fs' s' E' hk hP hle hinv S => ?_) after
  obtain ⟨c, u, hc, rfl⟩ := hP
  exact hbody k c u J' m' news' Fs' s' E' hc hle hinv S
theorem byteAt {ns : List Int} {k : Nat} {c : UInt8} (hr : ∀ n ∈ ns, 0 ≤ n ∧ n < 256) (hc : (byteArr ns)[k]? = some c) : ns[k]? = some (c.toNat : Int) ∧ k < ns.length := by
  unfold byteArr at hc
  rw [List.getElem?_toArray, List.getElem?_map] at hc
  cases hk : ns[k]? with
  | none => rw [hk] at hc; cases hc
  | some v =>
    rw [hk] at hc
    have hv := hr v (List.mem_of_getElem? hk)
    have : v.toNat.toUInt8 = c := by simpa using hc
    refine ⟨?_, (List.getElem?_eq_some_iff.mp hk).1⟩
    rw [← this]
    have : v.toNat.toUInt8.toNat = v.toNat := by simp [Nat.toUInt8]; omega
    rw [this]
    congr 1
    omega
set_option maxHeartbeats 4000000 in
theorem b2a_spec {ns : List Int} {t : Tok} {Q : Value → Shared → Prop} (S : Sit w (n + 2) A env o₀ Fs J m news s) (hr : ∀ n ∈ ns, 0 ≤ n ∧ n < 256) (hlen : ns.length ≤ 100)
    (h : ∀ t J' s', J.le J' → Sit w (n + 2) A env o₀ Fs J' m news s' → Q (.bytes (byteArr (b64fin (b64raw ns))) t) s') : wpAny (MM w) A (call (.ref 204) [.bytes (byteArr ns) t] [(Str.ofString "newline", .bool false)]) Q E s := by
  ktr_call 204 [(Str.ofString "data", .bytes (byteArr ns) t), (Str.ofString "newline", .bool false)]
  repeat kc_bool
  simp only [List.nil_append]
  refine buffer_spec S ?_
  intro s S
  repeat kc_bool
  simp only [List.nil_append]
  refine truth_spec S ?_
  intro s S
  repeat kc_bool
  refine S.newL (by simp [sizeLine_eq]) ?_
  intro lo s S
  repeat kc_bool
  refine wpAny_execs_cons (wpAny_For ?_ (fun _ => rfl))
  repeat kc_bool
  have hsz : (byteArr ns).size = ns.length := by simp [byteArr]
  refine S.forBytes (kind_of hsc rfl) (fun k J' m' news' => J.le J' ∧ ∃ ovs e t1 t2, news' = (lo, lO ovs e) :: news ∧ IntsAre ovs (b64raw (ns.take k)).out ∧ m' (Str.ofString "out") = some (.ref lo) ∧ m' (Str.ofString "newline") = some (.bool false) ∧
    m' (Str.ofString "leftbits") = some (.int (b64raw (ns.take k)).lb t1) ∧ m' (Str.ofString "leftchar") = some (.int (b64raw (ns.take k)).lc t2)) ⟨.refl _, [], 0, _, _, rfl, .nil, rfl, rfl, rfl, rfl⟩ ?_ ?_
  · rintro k c tc J1 m1 news1 Fs1 s E hc hle1 ⟨_, ovs, e, t1, t2, rfl, hovs, hout, hnl, hlb, hlc⟩ S
    have hok := (raw_ok ns k)
    have hck : ns[k]? = some (c.toNat : Int) ∧ k < ns.length := byteAt hr hc
    have hraw : b64raw (ns.take (k + 1)) = pushB (b64raw (ns.take k)) (c.toNat : Int) := by
      rw [List.take_add_one, hck.1]
      unfold b64raw
      rw [List.foldl_append]; rfl
    rw [hraw]
    generalize b64raw (ns.take k) = st at *
    obtain ⟨⟨hlb3, hlc0, hlc1, hob⟩, hol⟩ := hok
    repeat kc_bool
    refine S.shl (by decide) (by decide) (by omega) ?_
    intro _ s S
    repeat kc_bool
    refine S.bor ?_
    intro _ s S
    have hcb := c.toNat_lt
    rw [or_add hlc0 (by omega) (by omega)]
    repeat kc_bool
    refine S.band ?_
    intro _ s S
    rw [show Builtin.bitAnd (st.lc * 256 + (c.toNat : Nat)) 65535 = (st.lc * 256 + (c.toNat : Nat)) % 65536 from and_mod (k := 16) (by omega)]
    repeat kc_bool
    have hpush : pushB st (c.toNat : Nat) = drain 2 ⟨st.out, st.lb + 8, (st.lc * 256 + (c.toNat : Nat)) % 65536⟩ := rfl
    have hm0 : 0 ≤ (st.lc * 256 + (c.toNat : Nat)) % 65536 := Int.emod_nonneg _ (by decide)
    have hm1 : (st.lc * 256 + (c.toNat : Nat)) % 65536 < 65536 := Int.emod_lt_of_pos _ (by decide)
    generalize (st.lc * 256 + (c.toNat : Nat)) % 65536 = lc at *
    rw [hpush]
    generalize hst0 : (⟨st.out, st.lb + 8, lc⟩ : BS) = st0 at *
    refine while_then (fun s => ∃ m' st1 ovs e t1, Sit w (n + 1) (A.deeper env) env o₀ Fs1 J1 m' ((lo, lO ovs e) :: news) s ∧ st1 = drain 2 st0 ∧ IntsAre ovs st1.out ∧ m' (Str.ofString "out") = some (.ref lo) ∧ m' (Str.ofString "newline") = some (.bool false) ∧
        m' (Str.ofString "leftbits") = some (.int st1.lb t1) ∧ ∃ t2, m' (Str.ofString "leftchar") = some (.int st1.lc t2))
      (fun k s => ∃ m' st1 ovs e t1, Sit w (n + 1) (A.deeper env) env o₀ Fs1 J1 m' ((lo, lO ovs e) :: news) s ∧ drain k st1 = drain 2 st0 ∧ IntsAre ovs st1.out ∧ m' (Str.ofString "out") = some (.ref lo) ∧ m' (Str.ofString "newline") = some (.bool false) ∧
        m' (Str.ofString "leftbits") = some (.int st1.lb t1) ∧ (∃ t2, m' (Str.ofString "leftchar") = some (.int st1.lc t2)) ∧ 0 ≤ st1.lb ∧ st1.lb < 6 * (k + 1) ∧ 0 ≤ st1.lc ∧ st1.out.length + k ≤ 300) 2
      ⟨_, st0, ovs, e, _, S, rfl, by rw [← hst0]; exact hovs, hout, hnl, by rw [← hst0]; rfl, ⟨_, by rw [← hst0]; rfl⟩, by rw [← hst0]; show 0 ≤ st.lb + 8; omega, by rw [← hst0]; show st.lb + 8 < _; omega, by rw [← hst0]; exact hm0, by rw [← hst0]; show st.out.length + 2 ≤ 300; omega⟩ ?_ ?_
    · rintro j s E ⟨m', st1, ovs, e, t1, S, hdr, hov, ho, hn, hl, ⟨t2, hc2⟩, hb0, hb1, hc0, hlen1⟩
      repeat kc_bool
      by_cases h6 : 6 ≤ st1.lb
      · rw [if_pos (by simpa using h6)]
        obtain ⟨j', rfl⟩ : ∃ j', j = j' + 1 := ⟨j - 1, by omega⟩
        rw [drain, if_pos h6] at hdr
        repeat kc_bool
        with_reducible refine mList S.hd PySem.F.slot_list_append PySem.F.type_list_append ?_
        repeat kc_bool
        refine S.shr (by omega) ?_
        intro _ s S
        repeat kc_bool
        refine S.band ?_
        intro _ s S
        rw [Int.fdiv_eq_ediv_of_nonneg _ (Int.le_of_lt (Int.pow_pos (by decide)))]
        have hq0 : 0 ≤ st1.lc / 2 ^ (st1.lb - 6).toNat := Int.ediv_nonneg hc0 (Int.le_of_lt (Int.pow_pos (by decide)))
        rw [show Builtin.bitAnd (st1.lc / 2 ^ (st1.lb - 6).toNat) 63 = (st1.lc / 2 ^ (st1.lb - 6).toNat) % 64 from and_mod (k := 6) hq0]
        have hi0 : 0 ≤ (st1.lc / 2 ^ (st1.lb - 6).toNat) % 64 := Int.emod_nonneg _ (by decide)
        have hi1 : (st1.lc / 2 ^ (st1.lb - 6).toNat) % 64 < 64 := Int.emod_lt_of_pos _ (by decide)
        refine KBy.item_N (x := alphaB) (by decide) hi0 hi1 ?_ (by with_unfolding_all rfl) (fun _ => by with_unfolding_all rfl)
        replace S := S.toks (s.toks + 1)
        repeat kc_bool
        refine S.append (by rw [hov.length, sizeLine_eq]; omega) ?_
        intro s S
        (try dsimp only)
        repeat kc_bool
        refine ⟨j', by omega, _, bEmit st1, _, _, _, S, hdr, hov.append (.cons _ _ .nil), ho, hn, rfl, ⟨t2, hc2⟩, ?_, ?_, hc0, ?_⟩
        · show 0 ≤ st1.lb - 6; omega
        · show st1.lb - 6 < _; omega
        · simp [bEmit]; omega
      · rw [if_neg (by simpa using h6)]
        refine ⟨m', st1, ovs, e, t1, S, ?_, hov, ho, hn, hl, t2, hc2⟩
        rw [← hdr]
        cases j with
        | zero => rfl
        | succ j => rw [drain, if_neg h6]
    · rintro s ⟨m', st1, ovs, e, t1, S, rfl, hov, ho, hn, hl, ⟨t2, hc2⟩⟩
      repeat kc_bool
      exact nextTo S (.refl _) ⟨hle1, ovs, e, t1, t2, rfl, hov, ho, hn, hl, hc2⟩
  rintro J1 m1 news1 s hle1 ⟨_, ovs, e, t1, t2, rfl, hovs, hout, hnl, hlb, hlc⟩ S
  have hok := raw_ok ns ns.length
  rw [hsz, List.take_length] at hovs hlb hlc
  rw [List.take_length] at hok
  generalize hst : b64raw ns = st at *
  obtain ⟨⟨hlb3, hlc0, hlc1, hob⟩, hol⟩ := hok
  have hz := hovs.length
  refine then_ (fun s => ∃ ovs e, Sit w (n + 1) (A.deeper env) env o₀ Fs' J1 m1 ((lo, lO ovs e) :: news) s ∧ IntsAre ovs (b64fin st)) ?_ ?_
  · repeat kc_bool
    by_cases h2 : st.lb = 2
    · rw [if_pos (by simpa using h2)]
      repeat kc_bool
      with_reducible refine mList S.hd PySem.F.slot_list_append PySem.F.type_list_append ?_
      repeat kc_bool
      refine S.band ?_
      intro _ s S
      rw [show Builtin.bitAnd st.lc 3 = st.lc % 4 from and_mod (k := 2) hlc0]
      have hi0 : 0 ≤ st.lc % 4 := Int.emod_nonneg _ (by decide)
      have hi1 : st.lc % 4 < 4 := Int.emod_lt_of_pos _ (by decide)
      repeat kc_bool
      refine S.shl (by decide) (by decide) (by omega) ?_
      intro _ s S
      rw [show (2 : Int) ^ (4 : Int).toNat = 16 from rfl]
      refine KBy.item_N (x := alphaB) (by decide) (by omega) (show st.lc % 4 * 16 < ((64 : Nat) : Int) by omega) ?_ (by with_unfolding_all rfl) (fun _ => by with_unfolding_all rfl)
      replace S := S.toks (s.toks + 1)
      repeat kc_bool
      refine S.append (by rw [hz, sizeLine_eq]; omega) ?_
      intro s S
      (try dsimp only)
      repeat kc_bool
      with_reducible refine mList S.hd PySem.F.slot_list_append PySem.F.type_list_append ?_
      repeat kc_bool
      refine S.append (by simp only [List.length_append, List.length_cons, List.length_nil, hz, sizeLine_eq]; omega) ?_
      intro s S
      (try dsimp only)
      repeat kc_bool
      with_reducible refine mList S.hd PySem.F.slot_list_append PySem.F.type_list_append ?_
      repeat kc_bool
      refine S.append (by simp only [List.length_append, List.length_cons, List.length_nil, hz, sizeLine_eq]; omega) ?_
      intro s S
      (try dsimp only)
      repeat kc_bool
      refine ⟨rfl, _, _, S, ?_⟩
      unfold b64fin
      rw [if_pos h2]
      rw [show st.out ++ [codeB (st.lc % 4 * 16), 61, 61] = st.out ++ [codeB (st.lc % 4 * 16)] ++ [61] ++ [61] by simp]
      exact ((hovs.append (.cons _ _ .nil)).append (.cons _ _ .nil)).append (.cons _ _ .nil)
    · rw [if_neg (by simpa using h2)]
      repeat kc_bool
      by_cases h4 : st.lb = 4
      · rw [if_pos (by simpa using h4)]
        repeat kc_bool
        with_reducible refine mList S.hd PySem.F.slot_list_append PySem.F.type_list_append ?_
        repeat kc_bool
        refine S.band ?_
        intro _ s S
        rw [show Builtin.bitAnd st.lc 15 = st.lc % 16 from and_mod (k := 4) hlc0]
        have hi0 : 0 ≤ st.lc % 16 := Int.emod_nonneg _ (by decide)
        have hi1 : st.lc % 16 < 16 := Int.emod_lt_of_pos _ (by decide)
        repeat kc_bool
        refine S.shl (by decide) (by decide) (by omega) ?_
        intro _ s S
        rw [show (2 : Int) ^ (2 : Int).toNat = 4 from rfl]
        refine KBy.item_N (x := alphaB) (by decide) (by omega) (show st.lc % 16 * 4 < ((64 : Nat) : Int) by omega) ?_ (by with_unfolding_all rfl) (fun _ => by with_unfolding_all rfl)
        replace S := S.toks (s.toks + 1)
        repeat kc_bool
        refine S.append (by rw [hz, sizeLine_eq]; omega) ?_
        intro s S
        (try dsimp only)
        repeat kc_bool
        with_reducible refine mList S.hd PySem.F.slot_list_append PySem.F.type_list_append ?_
        repeat kc_bool
        refine S.append (by simp only [List.length_append, List.length_cons, List.length_nil, hz, sizeLine_eq]; omega) ?_
        intro s S
        (try dsimp only)
        repeat kc_bool
        refine ⟨rfl, _, _, S, ?_⟩
        unfold b64fin
        rw [if_neg h2, if_pos h4]
        rw [show st.out ++ [codeB (st.lc % 16 * 4), 61] = st.out ++ [codeB (st.lc % 16 * 4)] ++ [61] by simp]
        exact (hovs.append (.cons _ _ .nil)).append (.cons _ _ .nil)
      · rw [if_neg (by simpa using h4)]
        repeat kc_bool
        refine ⟨rfl, _, _, S, ?_⟩
        unfold b64fin
        rw [if_neg h2, if_neg h4]
        exact hovs
  rintro s ⟨ovs, e, S, hov⟩
  repeat kc_bool
  have hfb : ∀ x ∈ b64fin st, 0 ≤ x ∧ x < 256 := by
    unfold b64fin
    intro x hx
    split at hx
    · rcases List.mem_append.mp hx with hx | hx
      · exact hob x hx
      · rcases List.mem_cons.mp hx with rfl | hx
        · exact codeB_bd _
        · simp at hx; subst hx; decide
    split at hx
    · rcases List.mem_append.mp hx with hx | hx
      · exact hob x hx
      · rcases List.mem_cons.mp hx with rfl | hx
        · exact codeB_bd _
        · simp at hx; subst hx; decide
    · exact hob x hx
  have hfl : (b64fin st).length ≤ 300 := by
    unfold b64fin
    split
    · simp; omega
    split
    · simp; omega
    · omega
  refine S.bytesOf S.hd hov hfb (by rw [hov.length, sizeLine_eq]; omega) ?_
  intro _ s S
  exact ⟨_, _, _, S, fun S => h _ _ _ hle1 S.drop⟩
end
-- text BE
section
variable {w : World} {n : Nat} {A : Around} {env : Env} {o₀ : OsState} {Fs J : Know} {m : Loc} {news : Led} {s : Shared} {E : Value → Shared → Prop}
theorem callNK {x : Str} {px pos : Pos} {args : List Expr} {kws : List Keyword} {Q : Value → Shared → Prop} (h : wpAny (MM w) A (eval (.Name x px) env) (fun f s₁ => wpAny (MM w) A (callWith pos f [] (backTo pos (starEach args env)) (backToKw pos (keywordEach kws env))) Q E s₁) E s) :
    wpAny (MM w) A (eval (.Call (.Name x px) args kws pos) env) Q E s := by
  rw [show eval (.Call (.Name x px) args kws pos) env = (do callWith pos (← eval (.Name x px) env) [] (backTo pos (starEach args env)) (backToKw pos (keywordEach kws env))) from rfl]
  exact wpAny_bind h
theorem b64encode_spec {ns : List Int} {t : Tok} {Q : Value → Shared → Prop} (S : Sit w (n + 3) A env o₀ Fs J m news s) (hr : ∀ n ∈ ns, 0 ≤ n ∧ n < 256) (hlen : ns.length ≤ 100)
    (h : ∀ t J' s', J.le J' → Sit w (n + 3) A env o₀ Fs J' m news s' → Q (.bytes (byteArr (b64fin (b64raw ns))) t) s') : wpAny (MM w) A (call (.ref 212) [.bytes (byteArr ns) t]) Q E s := by
  refine' Sit.defcall (f := 212) (binds := [(Str.ofString "s", .bytes (byteArr ns) t), (Str.ofString "altchars", .none)]) S ?ho ?hd ?hb ?hc ?hbi ?hce ?hlo ?hgl ?hbl ?hco ?hge ?hk ?_
  case ho => k_is
  case hd => rfl
  case hb => rfl
  case hc => k_is
  case hbi => exact BindsTo.of_defaults (T := 205) rfl (S.X 205 _ (by k_is)) rfl rfl rfl
  case hce => decide
  case hlo => exact locs rfl
  case hgl => rfl
  case hbl => rfl
  case hco => rfl
  case hge => rfl
  case hk => rfl
  intro env s E Fs' hsc hce hcd hql hfr S
  dsimp only at hsc hce hcd hql
  repeat kc_bool
  refine callNK ?_
  repeat kc_bool
  refine callWith_KW S.X (by k_is) rfl ?_ rfl (star_c rfl)
  repeat kc_bool
  refine kwAll_cons ?_
  repeat kc_bool
  refine kwAll_nil ?_
  refine ⟨S.X, ?_⟩
  refine b2a_spec S hr hlen ?_
  intro _ J1 s hle1 S
  repeat kc_bool
  refine wpAny_isNot_self rfl ?_
  repeat kc_bool
  exact ⟨_, _, _, S, fun S => h _ _ _ hle1 S⟩
end
-- text PM
section
/-! plain: the order of the rows -/
theorem lexLe_trans : ∀ (a b c : List Int), lexLt b a = false → lexLt c b = false → lexLt c a = false
  | [], [], [], _, _ => rfl
  | [], [], _ :: _, _, _ => rfl
  | [], _ :: _, [], _, h => by simp [lexLt] at h
  | [], _ :: _, _ :: _, _, _ => rfl
  | _ :: _, [], _, h, _ => by simp [lexLt] at h
  | _ :: _, _ :: _, [], _, h => by simp [lexLt] at h
  | x :: a, y :: b, z :: c, h1, h2 => by
    simp only [lexLt] at h1 h2 ⊢
    split at h1
    · rename_i e1
      subst e1
      split at h2
      · rename_i e2
        subst e2
        rw [if_pos rfl]
        exact lexLe_trans a b c h1 h2
      · rename_i e2
        rw [if_neg e2]
        exact h2
    · rename_i e1
      split at h2
      · rename_i e2
        subst e2
        rw [if_neg e1]
        exact h1
      · rename_i e2
        have h1' : ¬ y < x := by simpa using h1
        have h2' : ¬ z < y := by simpa using h2
        rw [if_neg (by omega)]
        simp; omega
theorem lexLt_total : ∀ (a b : List Int), lexLt a b = false → lexLt b a = false → a = b
  | [], [], _, _ => rfl
  | [], _ :: _, h, _ => by simp [lexLt] at h
  | _ :: _, [], _, h => by simp [lexLt] at h
  | x :: a, y :: b, h1, h2 => by
    simp only [lexLt] at h1 h2
    by_cases e : x = y
    · subst e
      rw [if_pos rfl] at h1 h2
      rw [lexLt_total a b h1 h2]
    · rw [if_neg e] at h1
      rw [if_neg (Ne.symm e)] at h2
      simp at h1 h2
      omega
theorem lexLt_asymm : ∀ (a b : List Int), lexLt a b = true → lexLt b a = false
  | [], [], h => by simp [lexLt] at h
  | [], _ :: _, _ => rfl
  | _ :: _, [], h => by simp [lexLt] at h
  | x :: a, y :: b, h1 => by
    simp only [lexLt] at h1 ⊢
    by_cases e : x = y
    · subst e
      rw [if_pos rfl] at h1 ⊢
      exact lexLt_asymm a b h1
    · rw [if_neg e] at h1
      rw [if_neg (Ne.symm e)]
      simp at h1 ⊢
      omega
theorem itLe_trans {k k' k'' : Int} {a b c : List Int} (h1 : itLt k' b k a = false) (h2 : itLt k'' c k' b = false) : itLt k'' c k a = false := by
  simp only [itLt, Bool.or_eq_false_iff, Bool.and_eq_false_iff, decide_eq_false_iff_not] at *
  obtain ⟨h11, h12⟩ := h1
  obtain ⟨h21, h22⟩ := h2
  refine ⟨by omega, ?_⟩
  by_cases e : k'' = k
  · right
    have e1 : k' = k := by omega
    have e2 : k'' = k' := by omega
    exact lexLe_trans a b c (h12.resolve_left (fun q => q e1)) (h22.resolve_left (fun q => q e2))
  · exact .inl e
theorem itLt_asymm {k k' : Int} {a b : List Int} (h : itLt k a k' b = true) : itLt k' b k a = false := by
  simp only [itLt, Bool.or_eq_true, Bool.and_eq_true, decide_eq_true_eq, Bool.or_eq_false_iff, Bool.and_eq_false_iff, decide_eq_false_iff_not] at *
  rcases h with h | ⟨rfl, h⟩
  · exact ⟨by omega, .inl (by omega)⟩
  · exact ⟨by omega, .inr (lexLt_asymm _ _ h)⟩
theorem itLt_total {k k' : Int} {a b : List Int} (h : itLt k a k' b = false) (h' : itLt k' b k a = false) : k = k' ∧ a = b := by
  simp only [itLt, Bool.or_eq_false_iff, Bool.and_eq_false_iff, decide_eq_false_iff_not] at *
  have e : k = k' := by omega
  exact ⟨e, lexLt_total a b (h.2.resolve_left (fun q => q e)) (h'.2.resolve_left (fun q => q e.symm))⟩
noncomputable def It.le (x y : It) : Prop := y.lt x = false
theorem It.le_trans {x y z : It} (h1 : x.le y) (h2 : y.le z) : x.le z := itLe_trans h1 h2
theorem It.le_refl (x : It) : x.le x := by
  cases h : x.lt x with
  | false => exact h
  | true => have := itLt_asymm h; exact this
theorem It.lt_le {x y : It} (h : x.lt y = true) : x.le y := itLt_asymm h
theorem It.not_lt {x y : It} (h : ¬ x.lt y = true) : y.le x := by unfold It.le; simpa using h
/-! plain: heaps in lists -/
noncomputable def HeapL (xs : List It) : Prop := ∀ i (h : i < xs.length), 0 < i → (xs[(i - 1) / 2]'(by omega)).le xs[i]
noncomputable def HoleA (ys : List It) (p : Nat) : Prop := ∀ i (h : i < ys.length), 0 < i → i ≠ p → (ys[(i - 1) / 2]'(by omega)).le ys[i]
noncomputable def HoleB (ys : List It) (p : Nat) (hp : p < ys.length) : Prop := ∀ i (h : i < ys.length), 0 < i → (i - 1) / 2 = p → 0 < p → (ys[(p - 1) / 2]'(by omega)).le ys[i]
theorem swap_perm {xs : List It} {i j : Nat} (hi : i < xs.length) (hj : j < xs.length) : ((xs.set i xs[j]).set j xs[i]).Perm xs := by
  have := Array.swap_perm (xs := xs.toArray) (i := i) (j := j) (by simpa using hi) (by simpa using hj)
  rw [Array.perm_iff_toList_perm] at this
  simpa [Array.swap] using this
theorem sdown_ok (x : It) : ∀ (p : Nat) (xs : List It) (hp : p < xs.length), HoleA (xs.set p x) p → HoleB (xs.set p x) p (by simpa using hp) → HeapL (sdown x xs p) ∧ (sdown x xs p).Perm (xs.set p x) := by
  intro p
  induction p using Nat.strongRecOn with
  | _ p ih =>
    intro xs hp ha hb
    rw [sdown]
    by_cases h0 : p = 0
    · rw [dif_pos h0]
      refine ⟨fun i h hi => ha i h hi (by omega), .refl _⟩
    · rw [dif_neg h0]
      have hq : (p - 1) / 2 < xs.length := by omega
      have hqp : (p - 1) / 2 < p := by omega
      have hget : xs.getD ((p - 1) / 2) x = xs[(p - 1) / 2] := by simp [List.getD_eq_getElem?_getD, hq]
      rw [hget]
      have gp : (xs.set p x)[p]'(by simpa using hp) = x := by simp
      have gq : (xs.set p x)[(p - 1) / 2]'(by simpa using hq) = xs[(p - 1) / 2] := by rw [List.getElem_set_ne (by omega)]
      by_cases hlt : x.lt xs[(p - 1) / 2] = true
      · rw [if_pos hlt]
        have ez : ((xs.set p xs[(p - 1) / 2]).set ((p - 1) / 2) x) = ((xs.set p x).set p ((xs.set p x)[(p - 1) / 2]'(by simpa using hq))).set ((p - 1) / 2) ((xs.set p x)[p]'(by simpa using hp)) := by
          rw [gp, gq, List.set_set]
        have hperm : ((xs.set p xs[(p - 1) / 2]).set ((p - 1) / 2) x).Perm (xs.set p x) := by
          rw [ez]
          exact swap_perm (by simpa using hp) (by simpa using hq)
        have val : ∀ i (h : i < xs.length), ((xs.set p xs[(p - 1) / 2]).set ((p - 1) / 2) x)[i]'(by simpa using h) = if i = (p - 1) / 2 then x else if i = p then xs[(p - 1) / 2] else xs[i] := by
          intro i h
          rw [List.getElem_set]
          split
          · rename_i e; rw [if_pos e.symm]
          · rename_i e
            rw [if_neg (fun q => e q.symm), List.getElem_set]
            split
            · rename_i e2; rw [if_pos e2.symm]
            · rename_i e2; rw [if_neg (fun q => e2 q.symm)]
        have val0 : ∀ i (h : i < xs.length), (xs.set p x)[i]'(by simpa using h) = if i = p then x else xs[i] := by
          intro i h
          rw [List.getElem_set]
          split
          · rename_i e; rw [if_pos e.symm]
          · rename_i e; rw [if_neg (fun q => e q.symm)]
        have hA : HoleA ((xs.set p xs[(p - 1) / 2]).set ((p - 1) / 2) x) ((p - 1) / 2) := by
          intro i h hi hne
          have h' : i < xs.length := by simpa using h
          rw [val i h', val ((i - 1) / 2) (by omega), if_neg hne]
          by_cases e1 : i = p
          · subst e1
            rw [if_pos rfl, if_pos rfl]
            exact It.lt_le hlt
          · rw [if_neg e1]
            have a1 := ha i (by simpa using h') hi e1
            rw [val0 i h', val0 ((i - 1) / 2) (by omega), if_neg e1] at a1
            by_cases e2 : (i - 1) / 2 = (p - 1) / 2
            · rw [if_pos e2]
              rw [if_neg (by omega)] at a1
              have : xs[(i - 1) / 2]'(by omega) = xs[(p - 1) / 2] := by simp only [e2]
              rw [this] at a1
              exact It.le_trans (It.lt_le hlt) a1
            · rw [if_neg e2]
              by_cases e3 : (i - 1) / 2 = p
              · rw [if_pos e3]
                have b1 := hb i (by simpa using h') hi e3 (by omega)
                rw [val0 i h', val0 ((p - 1) / 2) (by omega), if_neg e1, if_neg (by omega)] at b1
                exact b1
              · rw [if_neg e3]
                rw [if_neg e3] at a1
                exact a1
        have hB : HoleB ((xs.set p xs[(p - 1) / 2]).set ((p - 1) / 2) x) ((p - 1) / 2) (by simpa using hq) := by
          intro i h hi hpar hq0
          have h' : i < xs.length := by simpa using h
          rw [val i h', val (((p - 1) / 2 - 1) / 2) (by omega), if_neg (by omega), if_neg (by omega), if_neg (by omega)]
          have a1 := ha ((p - 1) / 2) (by simpa using hq) hq0 (by omega)
          rw [val0 _ hq, val0 _ (by omega), if_neg (by omega), if_neg (by omega)] at a1
          by_cases e1 : i = p
          · rw [if_pos e1]; exact a1
          · rw [if_neg e1]
            have a2 := ha i (by simpa using h') hi e1
            rw [val0 i h', val0 ((i - 1) / 2) (by omega), if_neg e1, if_neg (by omega)] at a2
            have : xs[(i - 1) / 2]'(by omega) = xs[(p - 1) / 2] := by simp only [hpar]
            rw [this] at a2
            exact It.le_trans a1 a2
        obtain ⟨r1, r2⟩ := ih ((p - 1) / 2) hqp (xs.set p xs[(p - 1) / 2]) (by simpa using hq) hA hB
        exact ⟨r1, r2.trans hperm⟩
      · rw [if_neg hlt]
        refine ⟨fun i h hi => ?_, .refl _⟩
        by_cases e1 : i = p
        · subst e1
          rw [gq, gp]
          exact It.not_lt hlt
        · exact ha i h hi e1
noncomputable def HoleU (xs : List It) (p : Nat) : Prop := ∀ i (h : i < xs.length), 0 < i → i ≠ p → (i - 1) / 2 ≠ p → (xs[(i - 1) / 2]'(by omega)).le xs[i]
theorem sup_ok (x : It) : ∀ (k : Nat) (xs : List It) (p : Nat) (hp : p < xs.length), xs.length - p ≤ k → HoleU xs p → HoleB xs p hp → HeapL (sup x xs p) ∧ (sup x xs p).Perm (xs.set p x) := by
  intro k
  induction k with
  | zero => intro xs p hp hk; omega
  | succ k ih =>
    intro xs p hp hk ha hb
    rw [sup]
    by_cases h1 : 2 * p + 1 < xs.length
    · rw [dif_pos h1]
      obtain ⟨hc1, hc2⟩ := supC_lt (x := x) h1
      have hcc : supC x xs p = 2 * p + 1 ∨ supC x xs p = 2 * p + 1 + 1 := by unfold supC; split <;> simp
      have hmin : ∀ i (h : i < xs.length), (i - 1) / 2 = p → 0 < i → (xs[supC x xs p]'hc1).le xs[i] := by
        intro i h hpar hi
        have hi2 : i = 2 * p + 1 ∨ i = 2 * p + 1 + 1 := by omega
        have g1 : xs.getD (2 * p + 1) x = xs[2 * p + 1] := by simp [List.getD_eq_getElem?_getD, h1]
        by_cases h2 : 2 * p + 1 + 1 < xs.length
        · have g2 : xs.getD (2 * p + 1 + 1) x = xs[2 * p + 1 + 1] := by simp [List.getD_eq_getElem?_getD, h2]
          by_cases hl : (xs[2 * p + 1]).lt xs[2 * p + 1 + 1] = false
          · have e : supC x xs p = 2 * p + 1 + 1 := by unfold supC; rw [if_pos ⟨h2, by rw [g1, g2]; exact hl⟩]
            simp only [e]
            rcases hi2 with rfl | rfl
            · exact hl
            · exact It.le_refl _
          · have e : supC x xs p = 2 * p + 1 := by unfold supC; rw [if_neg (fun q => hl (by rw [← g1, ← g2]; exact q.2))]
            simp only [e]
            rcases hi2 with rfl | rfl
            · exact It.le_refl _
            · exact It.lt_le (by simpa using hl)
        · have e : supC x xs p = 2 * p + 1 := by unfold supC; rw [if_neg (fun q => h2 q.1)]
          simp only [e]
          rcases hi2 with rfl | rfl
          · exact It.le_refl _
          · exact absurd h h2
      generalize hc : supC x xs p = c at *
      have hget : xs.getD c x = xs[c] := by simp [List.getD_eq_getElem?_getD, hc1]
      rw [hget]
      have val : ∀ i (h : i < xs.length), (xs.set p xs[c])[i]'(by simpa using h) = if i = p then xs[c] else xs[i] := by
        intro i h
        rw [List.getElem_set]
        split
        · rename_i e; rw [if_pos e.symm]
        · rename_i e; rw [if_neg (fun q => e q.symm)]
      have hpc : (c - 1) / 2 = p := by omega
      have hA : HoleU (xs.set p xs[c]) c := by
        intro i h hi hne hne2
        have h' : i < xs.length := by simpa using h
        rw [val i h', val ((i - 1) / 2) (by omega)]
        by_cases e1 : i = p
        · subst e1
          rw [if_pos rfl, if_neg (by omega)]
          exact hb c hc1 (by omega) hpc hi
        · rw [if_neg e1]
          by_cases e2 : (i - 1) / 2 = p
          · rw [if_pos e2]
            exact hmin i h' e2 hi
          · rw [if_neg e2]
            exact ha i h' hi e1 e2
      have hB : HoleB (xs.set p xs[c]) c (by simpa using hc1) := by
        intro i h hi hpar hc0
        have h' : i < xs.length := by simpa using h
        rw [val i h', val ((c - 1) / 2) (by omega), if_pos hpc, if_neg (by omega)]
        have a1 := ha i h' hi (by omega) (by omega)
        have : xs[(i - 1) / 2]'(by omega) = xs[c] := by simp only [hpar]
        rw [this] at a1
        exact a1
      obtain ⟨r1, r2⟩ := ih (xs.set p xs[c]) c (by simpa using hc1) (by simp; omega) hA hB
      refine ⟨r1, r2.trans ?_⟩
      have gp : (xs.set p x)[p]'(by simpa using hp) = x := by simp
      have gc : (xs.set p x)[c]'(by simpa using hc1) = xs[c] := by rw [List.getElem_set_ne (by omega)]
      have ez : ((xs.set p xs[c]).set c x) = ((xs.set p x).set p ((xs.set p x)[c]'(by simpa using hc1))).set c ((xs.set p x)[p]'(by simpa using hp)) := by
        rw [gp, gc, List.set_set]
      rw [ez]
      exact swap_perm (by simpa using hp) (by simpa using hc1)
    · rw [dif_neg h1]
      have val0 : ∀ i (h : i < xs.length), i ≠ p → (xs.set p x)[i]'(by simpa using h) = xs[i] := fun i h e => by rw [List.getElem_set_ne (Ne.symm e)]
      have e2 : (xs.set p x).set p x = xs.set p x := by rw [List.set_set]
      have := sdown_ok x p (xs.set p x) (by simpa using hp) ?_ ?_
      · rwa [e2] at this
      · rw [e2]
        intro i h hi hne
        have h' : i < xs.length := by simpa using h
        rw [val0 i h' hne, val0 ((i - 1) / 2) (by omega) (by omega)]
        exact ha i h' hi hne (by omega)
      · intro i h hi hpar
        have h' : i < xs.length := by simpa using h
        omega
theorem heap_min {xs : List It} (h : HeapL xs) : ∀ (i : Nat) (hi : i < xs.length), (xs[0]'(by omega)).le xs[i] := by
  intro i
  induction i using Nat.strongRecOn with
  | _ i ih =>
    intro hi
    by_cases h0 : i = 0
    · subst h0; exact It.le_refl _
    · exact It.le_trans (ih ((i - 1) / 2) (by omega) (by omega)) (h i hi (by omega))
theorem push_ok {xs : List It} {x : It} (h : HeapL xs) : HeapL (sdown x (xs ++ [x]) xs.length) ∧ (sdown x (xs ++ [x]) xs.length).Perm (xs ++ [x]) := by
  have e : (xs ++ [x]).set xs.length x = xs ++ [x] := by simp
  have hp : xs.length < (xs ++ [x]).length := by simp
  have := sdown_ok x xs.length (xs ++ [x]) hp ?_ ?_
  · rwa [e] at this
  · rw [e]
    intro i hi h0 hne
    have h' : i < xs.length := by simp at hi; omega
    rw [List.getElem_append_left h', List.getElem_append_left (by omega)]
    exact h i h' h0
  · intro i hi h0 hpar hq
    simp at hi
    omega
theorem pop_ok {xs : List It} {y : It} (h : HeapL (xs ++ [y])) : HeapL (popd xs y) ∧ ((xs.headD y) :: popd xs y).Perm (xs ++ [y]) ∧ ∀ z ∈ xs ++ [y], (xs.headD y).le z := by
  have hmin : ∀ z ∈ xs ++ [y], (xs.headD y).le z := by
    intro z hz
    obtain ⟨i, hi, rfl⟩ := List.getElem_of_mem hz
    have := heap_min h i hi
    have e : (xs ++ [y])[0]'(by simp) = xs.headD y := by cases xs <;> rfl
    rwa [e] at this
  cases xs with
  | nil => exact ⟨fun i hi => absurd hi (Nat.not_lt_zero _), .refl _, hmin⟩
  | cons x0 r =>
    have hp : 0 < (y :: r).length := by simp
    have := sup_ok y _ (y :: r) 0 hp (Nat.le_refl _) ?_ ?_
    · obtain ⟨h1, h2⟩ := this
      refine ⟨h1, ?_, hmin⟩
      show (x0 :: sup y (y :: r) 0).Perm (x0 :: r ++ [y])
      refine (List.Perm.cons x0 (h2.trans (.refl _))).trans ?_
      show (x0 :: (y :: r)).Perm (x0 :: (r ++ [y]))
      exact List.Perm.cons _ (List.perm_append_singleton y r).symm
    · intro i hi h0 _ hne
      have hi' : i < ((x0 :: r) ++ [y]).length := by simp at hi ⊢; omega
      have a1 := h i hi' h0
      have e1 : (y :: r)[i] = ((x0 :: r) ++ [y])[i] := by
        obtain ⟨j, rfl⟩ : ∃ j, i = j + 1 := ⟨i - 1, by omega⟩
        simp only [List.cons_append, List.getElem_cons_succ]
        rw [List.getElem_append_left (by simpa using hi)]
      have e2 : (y :: r)[(i - 1) / 2]'(by omega) = ((x0 :: r) ++ [y])[(i - 1) / 2]'(by omega) := by
        obtain ⟨j, hj⟩ : ∃ j, (i - 1) / 2 = j + 1 := ⟨(i - 1) / 2 - 1, by omega⟩
        have hjr : j < r.length := by simp at hi; omega
        simp only [hj, List.cons_append, List.getElem_cons_succ]
        rw [List.getElem_append_left hjr]
      rw [e1, e2]
      exact a1
    · intro i hi h0 hpar hq
      exact absurd hq (Nat.lt_irrefl _)
end
-- text PB
section
theorem code_all : ∀ i : Fin 64, (PySem.Txt.item sgnS (i.val : Int)) = ⟨#[(codeB (i.val : Int)).toNat]⟩ := by decide +kernel
theorem item_code {i : Int} (h0 : 0 ≤ i) (h1 : i < 64) : PySem.Txt.item sgnS i = ⟨#[(codeB i).toNat]⟩ := by
  have := code_all ⟨i.toNat, by omega⟩
  rwa [show ((⟨i.toNat, by omega⟩ : Fin 64).val : Int) = i from Int.toNat_of_nonneg h0] at this
theorem code_ascii : ∀ i : Fin 64, (codeB (i.val : Int)).toNat < 128 := by decide +kernel
noncomputable def txtOf (cs : List Int) : Str := ⟨(cs.map Int.toNat).toArray⟩
theorem item_m (x : Int) (k : Nat) : PySem.Txt.item sgnS ((x.fdiv (64 ^ k)).fmod 64) = txtOf [codeB (x / 64 ^ k % 64)] := by
  rw [Int.fmod_eq_emod_of_nonneg _ (by decide), Int.fdiv_eq_ediv_of_nonneg _ (Int.pow_nonneg (by decide))]
  exact item_code (Int.emod_nonneg _ (by decide)) (Int.emod_lt_of_pos _ (by decide))
noncomputable def Byt (a : Int) : Prop := 0 ≤ a ∧ a < 256
theorem ba0 {w a : Int} (h : Byt a) : (w * 256 + a) % 65536 / 4 % 64 = a / 4 := by unfold Byt at h; omega
theorem ba1 {w a b : Int} (ha : Byt a) (hb : Byt b) : ((w * 256 + a) % 65536 * 256 + b) % 65536 / 16 % 64 = a % 4 * 16 + b / 16 := by unfold Byt at ha hb; omega
theorem ba2 {w b c : Int} (hb : Byt b) (hc : Byt c) : ((w * 256 + b) % 65536 * 256 + c) % 65536 / 64 % 64 = b % 16 * 4 + c / 64 := by unfold Byt at hb hc; omega
theorem md {y c : Int} (q k : Int) : (y * (q * k) + c) % k = c % k := by
  rw [← Int.mul_assoc, Int.add_comm]; exact Int.add_mul_emod_self_right _ _ _
theorem ba3 {w c : Int} (hc : Byt c) : (w * 256 + c) % 65536 / 1 % 64 = c % 64 := by
  rw [Int.ediv_one, Int.emod_emod_of_dvd _ (by decide)]; exact md 4 64
theorem bf1 {w a : Int} : (w * 256 + a) % 65536 % 4 * 16 = a % 4 * 16 := by
  rw [Int.emod_emod_of_dvd _ (by decide), show (w * 256 + a) % 4 = a % 4 from md 64 4]
theorem bf2 {w a : Int} : (w * 256 + a) % 65536 % 16 * 4 = a % 16 * 4 := by
  rw [Int.emod_emod_of_dvd _ (by decide), show (w * 256 + a) % 16 = a % 16 from md 16 16]
theorem dd {x y k q m z : Int} (hq : 0 ≤ q) (e : x / q = y) (hk : k = q * m) (r : y / m % 64 = z) : x / k % 64 = z := by
  rw [hk, ← Int.ediv_ediv_of_nonneg hq, e]; exact r
theorem bp1 {x e k m z : Int} (h : Byt e) (hk : k = 256 * m) (r : x / m % 64 = z) : (x * 256 + e) / k % 64 = z :=
  dd (by decide) (by unfold Byt at h; omega) hk r
theorem bp1' {x e k m z : Int} (h : Byt e) (hk : k = 256 * m) (r : x / m % 64 = z) : (x * 256 + e) * 1 / k % 64 = z := by
  rw [Int.mul_one]; exact bp1 h hk r
theorem bp4 {x e k m z : Int} (h : Byt e) (hk : k = 1024 * m) (r : x / m % 64 = z) : (x * 256 + e) * 4 / k % 64 = z :=
  dd (by decide) (by unfold Byt at h; omega) hk r
theorem bp16 {x e k m z : Int} (h : Byt e) (hk : k = 4096 * m) (r : x / m % 64 = z) : (x * 256 + e) * 16 / k % 64 = z :=
  dd (by decide) (by unfold Byt at h; omega) hk r
theorem bz1 {x k z : Int} (r : x / k % 64 = z) : x * 1 / k % 64 = z := by rw [Int.mul_one]; exact r
theorem bz4 {x m k z : Int} (hk : k = 4 * m) (r : x / m % 64 = z) : x * 4 / k % 64 = z :=
  dd (by decide) (by omega) hk r
theorem bz16 {x m k z : Int} (hk : k = 16 * m) (r : x / m % 64 = z) : x * 16 / k % 64 = z :=
  dd (by decide) (by omega) hk r
theorem bb0 {y a : Int} (h : Byt a) : (y * 256 + a) / 4 % 64 = a / 4 := by unfold Byt at h; omega
theorem bb1 {y a b : Int} (ha : Byt a) (hb : Byt b) : ((y * 256 + a) * 256 + b) / 16 % 64 = a % 4 * 16 + b / 16 := by unfold Byt at ha hb; omega
theorem bb2 {y b c : Int} (hb : Byt b) (hc : Byt c) : ((y * 256 + b) * 256 + c) / 64 % 64 = b % 16 * 4 + c / 64 := by unfold Byt at hb hc; omega
theorem bb3 {y c : Int} : (y * 256 + c) / 1 % 64 = c % 64 := by
  rw [Int.ediv_one]; exact md 4 64
theorem bg1 {y a : Int} : (y * 256 + a) * 16 / 1 % 64 = a % 4 * 16 := by
  rw [Int.ediv_one, Int.mul_comm, show (64 : Int) = 16 * 4 from rfl, Int.mul_emod_mul_of_pos _ _ (by decide), show (y * 256 + a) % 4 = a % 4 from md 64 4, Int.mul_comm]
theorem bg2 {y b : Int} : (y * 256 + b) * 4 / 1 % 64 = b % 16 * 4 := by
  rw [Int.ediv_one, Int.mul_comm, show (64 : Int) = 4 * 16 from rfl, Int.mul_emod_mul_of_pos _ _ (by decide), show (y * 256 + b) % 16 = b % 16 from md 16 16, Int.mul_comm]
-- a code of the row from the machine and from the number
theorem bc {x y z : Int} (h : x = z) (h' : y = z) : codeB x = codeB y := by rw [h, h']
theorem txt_cons {x y : Int} {l l' : List Int} (h : x = y) (r : l = l') : x :: l = y :: l' := by rw [h, r]
noncomputable def digs (ns : List Int) : List Int := (List.range (manyN ns.length)).map (fun i => codeB (shifted ns / 64 ^ (manyN ns.length - 1 - i) % 64)) ++ List.replicate ((-(manyN ns.length : Int)).fmod 4).toNat 61
theorem join_txt : ∀ (l : List Nat) (f : Nat → Int), Txt.join (Str.ofString "") (l.map fun i => txtOf [f i]) = txtOf (l.map f) := fun l f => by
  have key : ∀ (rest : List Nat) (acc : Array Nat), ((rest.map fun i => txtOf [f i]).foldl (fun acc p => acc ++ (Str.ofString "").cps ++ p.cps) acc) = acc ++ ((rest.map f).map Int.toNat).toArray := fun rest => by
    induction rest with
    | nil => intro acc; exact (Array.append_empty).symm
    | cons x r ih =>
      intro acc
      rw [List.map_cons, List.foldl_cons, ih]
      show acc ++ #[] ++ #[(f x).toNat] ++ _ = _
      simp
  cases l with
  | nil => rfl
  | cons x r =>
    show (⟨((r.map fun i => txtOf [f i]).foldl _ _)⟩ : Str) = _
    rw [key]
    simp [txtOf]
theorem written_digs (ns : List Int) : written ns = txtOf (digs ns) := by
  unfold written
  simp only [item_m]
  rw [join_txt]
  show (⟨_⟩ : Str) = ⟨_⟩
  unfold digs
  simp [txtOf]
theorem wr1 {a : Int} (ha : Byt a) : b64fin (b64raw [a]) = digs [a] := by
  have L : b64fin (b64raw [a]) = [codeB ((0 * 256 + a) % 65536 / 4 % 64), codeB ((0 * 256 + a) % 65536 % 4 * 16), 61, 61] := by kernel_rfl
  have R : digs [a] = [codeB ((0 * 256 + a) * 16 / 64 % 64), codeB ((0 * 256 + a) * 16 / 1 % 64), 61, 61] := by kernel_rfl
  refine L.trans (Eq.trans ?_ R.symm)
  exact txt_cons (bc (ba0 ha) (bz16 (m := 4) rfl (bb0 ha))) (txt_cons (bc bf1 (bg1)) (rfl))
theorem wr2 {a b : Int} (ha : Byt a) (hb : Byt b) : b64fin (b64raw [a, b]) = digs [a, b] := by
  have L : b64fin (b64raw [a, b]) = [codeB ((0 * 256 + a) % 65536 / 4 % 64), codeB (((0 * 256 + a) % 65536 * 256 + b) % 65536 / 16 % 64), codeB (((0 * 256 + a) % 65536 * 256 + b) % 65536 % 16 * 4), 61] := by kernel_rfl
  have R : digs [a, b] = [codeB (((0 * 256 + a) * 256 + b) * 4 / 4096 % 64), codeB (((0 * 256 + a) * 256 + b) * 4 / 64 % 64), codeB (((0 * 256 + a) * 256 + b) * 4 / 1 % 64), 61] := by kernel_rfl
  refine L.trans (Eq.trans ?_ R.symm)
  exact txt_cons (bc (ba0 ha) (bp4 (m := 4) hb rfl (bb0 ha))) (txt_cons (bc (ba1 ha hb) (bz4 (m := 16) rfl (bb1 ha hb))) (txt_cons (bc bf2 (bg2)) (rfl)))
theorem wr3 {a b c : Int} (ha : Byt a) (hb : Byt b) (hc : Byt c) : b64fin (b64raw [a, b, c]) = digs [a, b, c] := by
  have L : b64fin (b64raw [a, b, c]) = [codeB ((0 * 256 + a) % 65536 / 4 % 64), codeB (((0 * 256 + a) % 65536 * 256 + b) % 65536 / 16 % 64), codeB ((((0 * 256 + a) % 65536 * 256 + b) % 65536 * 256 + c) % 65536 / 64 % 64), codeB ((((0 * 256 + a) % 65536 * 256 + b) % 65536 * 256 + c) % 65536 / 1 % 64)] := by kernel_rfl
  have R : digs [a, b, c] = [codeB ((((0 * 256 + a) * 256 + b) * 256 + c) * 1 / 262144 % 64), codeB ((((0 * 256 + a) * 256 + b) * 256 + c) * 1 / 4096 % 64), codeB ((((0 * 256 + a) * 256 + b) * 256 + c) * 1 / 64 % 64), codeB ((((0 * 256 + a) * 256 + b) * 256 + c) * 1 / 1 % 64)] := by kernel_rfl
  refine L.trans (Eq.trans ?_ R.symm)
  exact txt_cons (bc (ba0 ha) (bp1' (m := 1024) hc rfl (bp1 (m := 4) hb rfl (bb0 ha)))) (txt_cons (bc (ba1 ha hb) (bp1' (m := 16) hc rfl (bb1 ha hb))) (txt_cons (bc (ba2 hb hc) (bz1 (bb2 hb hc))) (txt_cons (bc (ba3 hc) (bz1 bb3)) (rfl))))
theorem wr4 {a b c d : Int} (ha : Byt a) (hb : Byt b) (hc : Byt c) (hd : Byt d) : b64fin (b64raw [a, b, c, d]) = digs [a, b, c, d] := by
  have L : b64fin (b64raw [a, b, c, d]) = [codeB ((0 * 256 + a) % 65536 / 4 % 64), codeB (((0 * 256 + a) % 65536 * 256 + b) % 65536 / 16 % 64), codeB ((((0 * 256 + a) % 65536 * 256 + b) % 65536 * 256 + c) % 65536 / 64 % 64), codeB ((((0 * 256 + a) % 65536 * 256 + b) % 65536 * 256 + c) % 65536 / 1 % 64), codeB (((((0 * 256 + a) % 65536 * 256 + b) % 65536 * 256 + c) % 65536 * 256 + d) % 65536 / 4 % 64), codeB (((((0 * 256 + a) % 65536 * 256 + b) % 65536 * 256 + c) % 65536 * 256 + d) % 65536 % 4 * 16), 61, 61] := by kernel_rfl
  have R : digs [a, b, c, d] = [codeB (((((0 * 256 + a) * 256 + b) * 256 + c) * 256 + d) * 16 / 1073741824 % 64), codeB (((((0 * 256 + a) * 256 + b) * 256 + c) * 256 + d) * 16 / 16777216 % 64), codeB (((((0 * 256 + a) * 256 + b) * 256 + c) * 256 + d) * 16 / 262144 % 64), codeB (((((0 * 256 + a) * 256 + b) * 256 + c) * 256 + d) * 16 / 4096 % 64), codeB (((((0 * 256 + a) * 256 + b) * 256 + c) * 256 + d) * 16 / 64 % 64), codeB (((((0 * 256 + a) * 256 + b) * 256 + c) * 256 + d) * 16 / 1 % 64), 61, 61] := by kernel_rfl
  refine L.trans (Eq.trans ?_ R.symm)
  exact txt_cons (bc (ba0 ha) (bp16 (m := 262144) hd rfl (bp1 (m := 1024) hc rfl (bp1 (m := 4) hb rfl (bb0 ha))))) (txt_cons (bc (ba1 ha hb) (bp16 (m := 4096) hd rfl (bp1 (m := 16) hc rfl (bb1 ha hb)))) (txt_cons (bc (ba2 hb hc) (bp16 (m := 64) hd rfl (bb2 hb hc))) (txt_cons (bc (ba3 hc) (bp16 (m := 1) hd rfl bb3)) (txt_cons (bc (ba0 hd) (bz16 (m := 4) rfl (bb0 hd))) (txt_cons (bc bf1 (bg1)) (rfl))))))
theorem wr5 {a b c d e : Int} (ha : Byt a) (hb : Byt b) (hc : Byt c) (hd : Byt d) (he : Byt e) : b64fin (b64raw [a, b, c, d, e]) = digs [a, b, c, d, e] := by
  have L : b64fin (b64raw [a, b, c, d, e]) = [codeB ((0 * 256 + a) % 65536 / 4 % 64), codeB (((0 * 256 + a) % 65536 * 256 + b) % 65536 / 16 % 64), codeB ((((0 * 256 + a) % 65536 * 256 + b) % 65536 * 256 + c) % 65536 / 64 % 64), codeB ((((0 * 256 + a) % 65536 * 256 + b) % 65536 * 256 + c) % 65536 / 1 % 64), codeB (((((0 * 256 + a) % 65536 * 256 + b) % 65536 * 256 + c) % 65536 * 256 + d) % 65536 / 4 % 64), codeB ((((((0 * 256 + a) % 65536 * 256 + b) % 65536 * 256 + c) % 65536 * 256 + d) % 65536 * 256 + e) % 65536 / 16 % 64), codeB ((((((0 * 256 + a) % 65536 * 256 + b) % 65536 * 256 + c) % 65536 * 256 + d) % 65536 * 256 + e) % 65536 % 16 * 4), 61] := by kernel_rfl
  have R : digs [a, b, c, d, e] = [codeB ((((((0 * 256 + a) * 256 + b) * 256 + c) * 256 + d) * 256 + e) * 4 / 68719476736 % 64), codeB ((((((0 * 256 + a) * 256 + b) * 256 + c) * 256 + d) * 256 + e) * 4 / 1073741824 % 64), codeB ((((((0 * 256 + a) * 256 + b) * 256 + c) * 256 + d) * 256 + e) * 4 / 16777216 % 64), codeB ((((((0 * 256 + a) * 256 + b) * 256 + c) * 256 + d) * 256 + e) * 4 / 262144 % 64), codeB ((((((0 * 256 + a) * 256 + b) * 256 + c) * 256 + d) * 256 + e) * 4 / 4096 % 64), codeB ((((((0 * 256 + a) * 256 + b) * 256 + c) * 256 + d) * 256 + e) * 4 / 64 % 64), codeB ((((((0 * 256 + a) * 256 + b) * 256 + c) * 256 + d) * 256 + e) * 4 / 1 % 64), 61] := by kernel_rfl
  refine L.trans (Eq.trans ?_ R.symm)
  exact txt_cons (bc (ba0 ha) (bp4 (m := 67108864) he rfl (bp1 (m := 262144) hd rfl (bp1 (m := 1024) hc rfl (bp1 (m := 4) hb rfl (bb0 ha)))))) (txt_cons (bc (ba1 ha hb) (bp4 (m := 1048576) he rfl (bp1 (m := 4096) hd rfl (bp1 (m := 16) hc rfl (bb1 ha hb))))) (txt_cons (bc (ba2 hb hc) (bp4 (m := 16384) he rfl (bp1 (m := 64) hd rfl (bb2 hb hc)))) (txt_cons (bc (ba3 hc) (bp4 (m := 256) he rfl (bp1 (m := 1) hd rfl bb3))) (txt_cons (bc (ba0 hd) (bp4 (m := 4) he rfl (bb0 hd))) (txt_cons (bc (ba1 hd he) (bz4 (m := 16) rfl (bb1 hd he))) (txt_cons (bc bf2 (bg2)) (rfl)))))))
theorem codeB_128 (i : Int) : 0 ≤ codeB i ∧ codeB i < 128 := by
  by_cases h : i.toNat < 64
  · have := code_ascii ⟨i.toNat, h⟩
    have e : codeB ((⟨i.toNat, h⟩ : Fin 64).val : Int) = codeB i := by
      unfold codeB
      rw [show ((⟨i.toNat, h⟩ : Fin 64).val : Int).toNat = i.toNat from rfl]
    rw [e] at this
    have := codeB_bd i
    omega
  · have e : codeB i = 0 := by
      unfold codeB
      rw [List.getD_eq_getElem?_getD, List.getElem?_eq_none (by show 64 ≤ _; omega)]
      rfl
    omega
noncomputable def Asc (l : List Int) : Prop := ∀ x ∈ l, 0 ≤ x ∧ x < 128
theorem asc_app {l l' : List Int} (h : Asc l) (h' : Asc l') : Asc (l ++ l') := fun x hx => (List.mem_append.mp hx).elim (h x) (h' x)
theorem asc_drain : ∀ k (st : BS), Asc st.out → Asc (drain k st).out
  | 0, _, h => h
  | k + 1, st, h => by
    rw [drain]
    split
    · exact asc_drain k _ (asc_app h fun x hx => by rw [List.mem_singleton.mp hx]; exact codeB_128 _)
    · exact h
theorem asc_raw : ∀ (ns : List Int) (st : BS), Asc st.out → Asc (ns.foldl pushB st).out
  | [], _, h => h
  | b :: ns, st, h => asc_raw ns _ (asc_drain 2 _ h)
theorem asc_fin (ns : List Int) : Asc (b64fin (b64raw ns)) := by
  have h := asc_raw ns ⟨[], 0, 0⟩ (fun x hx => (nomatch hx))
  have h61 : ∀ x : Int, x = 61 → 0 ≤ x ∧ x < 128 := fun x e => by omega
  unfold b64fin
  split
  · refine asc_app h fun x hx => ?_
    rcases List.mem_cons.mp hx with rfl | hx
    · exact codeB_128 _
    · exact h61 x (by simpa using hx)
  split
  · refine asc_app h fun x hx => ?_
    rcases List.mem_cons.mp hx with rfl | hx
    · exact codeB_128 _
    · exact h61 x (by simpa using hx)
  · exact h
theorem fin_digs {ns : List Int} (h1 : 1 ≤ ns.length) (h5 : ns.length ≤ 5) (hr : ∀ n ∈ ns, Byt n) : b64fin (b64raw ns) = digs ns := by
  match ns, h1, h5, hr with
  | [a], _, _, hr => exact wr1 (hr a (.head _))
  | [a, b], _, _, hr => exact wr2 (hr a (.head _)) (hr b (.tail _ (.head _)))
  | [a, b, c], _, _, hr => exact wr3 (hr a (.head _)) (hr b (.tail _ (.head _))) (hr c (.tail _ (.tail _ (.head _))))
  | [a, b, c, d], _, _, hr => exact wr4 (hr a (.head _)) (hr b (.tail _ (.head _))) (hr c (.tail _ (.tail _ (.head _)))) (hr d (.tail _ (.tail _ (.tail _ (.head _)))))
  | [a, b, c, d, e], _, _, hr => exact wr5 (hr a (.head _)) (hr b (.tail _ (.head _))) (hr c (.tail _ (.tail _ (.head _)))) (hr d (.tail _ (.tail _ (.tail _ (.head _))))) (hr e (.tail _ (.tail _ (.tail _ (.tail _ (.head _))))))
theorem digs_len {ns : List Int} (h1 : 1 ≤ ns.length) (h5 : ns.length ≤ 5) : (digs ns).length = 4 ∨ (digs ns).length = 8 := by
  have e : (digs ns).length = manyN ns.length + ((-(manyN ns.length : Int)).fmod 4).toNat := by
    unfold digs
    rw [List.length_append, List.length_map, List.length_range, List.length_replicate]
  have all : ∀ k : Fin 6, 1 ≤ k.val → manyN k.val + ((-(manyN k.val : Int)).fmod 4).toNat = 4 ∨ manyN k.val + ((-(manyN k.val : Int)).fmod 4).toNat = 8 := by decide +kernel
  rw [e]
  exact all ⟨ns.length, Nat.lt_succ_of_le h5⟩ h1
theorem fin_written {ns : List Int} (h1 : 1 ≤ ns.length) (h5 : ns.length ≤ 5) (hr : ∀ n ∈ ns, 0 ≤ n ∧ n < 256) : txtOf (b64fin (b64raw ns)) = written ns ∧ ((b64fin (b64raw ns)).length = 4 ∨ (b64fin (b64raw ns)).length = 8) := by
  rw [fin_digs h1 h5 hr, written_digs]
  exact ⟨rfl, digs_len h1 h5⟩
theorem u8 {x : Int} (h : 0 ≤ x ∧ x < 128) : x.toNat.toUInt8.toNat = x.toNat := by simp [Nat.toUInt8]; omega
theorem u8lt {x : Int} (h : 0 ≤ x ∧ x < 128) : x.toNat.toUInt8.toNat < 128 := by rw [u8 h]; omega
theorem dec_list {cs : List Int} (h : Asc cs) (hl : cs.length = 4 ∨ cs.length = 8) : ∃ c rest k, byteArr cs = (c :: rest).toArray ∧ ∀ id, Builtin._codecs.runDecoder id Builtin._codecs.asciiDecoder none true (c :: rest).toArray 0 [] = pure ((txtOf cs).cps, k) := by
  cases cs with
  | nil => rcases hl with hl | hl <;> cases hl
  | cons a r =>
    refine ⟨_, _, ((a :: r).map fun n : Int => n.toNat.toUInt8).length, rfl, fun id => (dec_any (id := id) ((a :: r).map fun n : Int => n.toNat.toUInt8) ?_ ?_).trans ?_⟩
    · intro b hb
      obtain ⟨x, hx, rfl⟩ := List.mem_map.mp (show b ∈ (a :: r).map fun n : Int => n.toNat.toUInt8 from hb)
      exact u8lt (h x hx)
    · show ((a :: r).map fun n : Int => n.toNat.toUInt8).length ≤ 8
      rw [List.length_map]; omega
    · show pure (((a :: r).map fun n : Int => n.toNat.toUInt8).map UInt8.toNat |>.toArray, _) = pure (((a :: r).map Int.toNat).toArray, _)
      rw [List.map_map, List.map_congr_left (g := Int.toNat) fun x hx => (show (UInt8.toNat ∘ fun n : Int => n.toNat.toUInt8) x = x.toNat from u8 (h x hx))]
theorem dec_written {ns : List Int} (h1 : 1 ≤ ns.length) (h5 : ns.length ≤ 5) (hr : ∀ n ∈ ns, 0 ≤ n ∧ n < 256) : ∃ c rest k, byteArr (b64fin (b64raw ns)) = (c :: rest).toArray ∧ (∀ id, Builtin._codecs.runDecoder id Builtin._codecs.asciiDecoder none true (c :: rest).toArray 0 [] = pure ((written ns).cps, k)) := by
  obtain ⟨e, hl⟩ := fin_written h1 h5 hr
  rw [← e]
  exact dec_list (asc_fin ns) hl
theorem written_len {ns : List Int} (h1 : 1 ≤ ns.length) (h5 : ns.length ≤ 5) (hr : ∀ n ∈ ns, 0 ≤ n ∧ n < 256) : (written ns).length = 4 ∨ (written ns).length = 8 := by
  obtain ⟨e, hl⟩ := fin_written h1 h5 hr
  rw [← e]
  have : (txtOf (b64fin (b64raw ns))).length = (b64fin (b64raw ns)).length := by
    show ((b64fin (b64raw ns)).map Int.toNat).toArray.size = _
    rw [List.size_toArray, List.length_map]
  rw [this]
  exact hl
end
-- text AC
section
variable {w : World} {n : Nat} {A : Around} {env : Env} {o₀ : OsState} {Fs J : Know} {m : Loc} {news : Led} {s : Shared} {E : Value → Shared → Prop}
abbrev aO (vs : List Value) (e : Nat) (d : Addr) : Obj := { cls := .ref 178, dict := some d, data := .seq vs.toArray e }
theorem canon_list_ga : (Manifest.canonical "list.__getattribute__" != "object.__getattribute__") = false := by decide +kernel
theorem methAcc {x d : Addr} {vs : List Value} {e : Nat} {es : List DictEntry} {k : Nat} {name : Str} {f tf : Value} {pl : Sem Bool} {Q : Value × List Value → Shared → Prop} (X : (Mine.hd.heap_1 w.params).In s.heap) (hx : s.heap.get? x = some (aO vs e d)) (hd : s.heap.get? d = some (dictOf es k))
    (hga : findIn (Mine.hd.heap_1 w.params) (.ref 178) "__getattribute__" = some (some (.builtin "list.__getattribute__"))) (hk : findIn (Mine.hd.heap_1 w.params) (.ref 178) "__getattr__" = some none)
    (hf : findIn (Mine.hd.heap_1 w.params) (.ref 178) name = some (some f)) (ht : typeIn (Mine.hd.heap_1 w.params) f = some tf) (htf : (tf != .type "function" && tf != .type "method_descriptor" && tf != .type "wrapper_descriptor") = false) (hs : getL name es = some none) (h : Q (f, [.ref x]) s) :
    wpAny (MM w) A (getMethod (.ref x) name pl) Q E s := by
  have hcan := canon_list_ga
  have I : InstAt s.heap x (aO vs e d) 178 (some (dictOf es k)) := ⟨hx, rfl, rfl, hd⟩
  unfold getMethod specialOf
  refine wpAny_bind (wpAny_bind (I.type.here ((looks_findIn X hga).here ?_)))
  dsimp only
  rw [hcan, if_neg (by decide)]
  refine wpAny_bind (wpAny_bind (I.type.here ((looks_findIn X hk).here ?_)))
  refine wpAny_bind (wpAny_bind (I.type.here ((looks_findIn X hf).here (wpAny_bind ((looks_typeIn X ht).here ?_)))))
  rw [if_neg (by rw [htf]; decide)]
  refine wpAny_bind (wpAny_loadPart I.at_ ?_)
  have hl : lookIn name (dictOf es k) = some none := by rw [lookIn_dict, hs]
  refine wpAny_bind (wpAny_bind (wpAny_loadPart hd ?_))
  rw [nsLook_of hl]
  refine wpAny_pure ?_
  exact wpAny_bind (wpAny_rule (wpAny_pure h))
example : typeIn (Mine.hd.heap_1 w.params) (.builtin "list.append") = some (.type "method_descriptor") := by k_is
example : typeIn (Mine.hd.heap_1 w.params) (.ref 122) = some (.type "function") := by k_is
example : mroIn (Mine.hd.heap_1 w.params) 178 (.type "list") = some true := by k_is
theorem accCheck {k' : Nat} {id n : String} {x d : Addr} {vs : List Value} {e : Nat} {rest : List Value} {Q : Unit → Shared → Prop} (S : Sit w k' A env o₀ Fs J m news s) (hx : s.heap.get? x = some (aO vs e d))
    (hsplit : splitId id = some ("list", n)) (hkind : (Manifest.find? "list").bind (·.attrs.lookup n) = some .slot ∨ (Manifest.find? "list").bind (·.attrs.lookup n) = some .method) (ha : argsOk id ⟨.ref x :: rest, []⟩) (hQ : Q () s) {A' : Around} {E' : Value → Shared → Prop} :
    wpAny (MM w) A' (checkBuiltinCall id ⟨.ref x :: rest, []⟩) Q E' s := by
  have hk : builtinKind id = (Manifest.find? "list").bind (·.attrs.lookup n) := by simp only [builtinKind, hsplit]
  have I : Looks (MM w) s.heap (typeOf (.ref x)) (.ref 178) := (Looks.ld (part := some headPart) hx).andThen .now
  have hsub := looks_mroIn (M := MM w) S.X (C := 178) (base := .type "list") (r := true) (by k_is)
  rcases hkind with h | h <;>
  · simp only [checkBuiltinCall, hk, h, hsplit]
    refine wpAny_bind ?_
    unfold isInstance
    refine wpAny_bind (I.here (hsub.here ?_))
    simp only [Bool.not_true, Bool.false_eq_true, if_false]
    cases hsig : Manifest.signature? id with
    | none => exact wpAny_pure hQ
    | some sig =>
      simp only [argsOk, hsig] at ha
      have h2 : Bind.checkArgs id sig ⟨.ref x :: rest, []⟩ = pure () := ha
      show wpAny _ _ (Bind.checkArgs id sig ⟨.ref x :: rest, []⟩) Q E' s
      rw [h2]; exact wpAny_pure hQ
theorem callAcc {k' : Nat} {id n : String} {B : Builtin} {x d : Addr} {vs : List Value} {e : Nat} {rest : List Value} {Q : Value → Shared → Prop} (S : Sit w k' A env o₀ Fs J m news s) (hx : s.heap.get? x = some (aO vs e d))
    (hsplit : splitId id = some ("list", n)) (hkind : (Manifest.find? "list").bind (·.attrs.lookup n) = some .slot ∨ (Manifest.find? "list").bind (·.attrs.lookup n) = some .method) (hplain : plainId id = true) (hb : entryFor table id = some B) (ha : argsOk id ⟨.ref x :: rest, []⟩)
    (hc : wpAny (MM w) A.in1 (B ⟨.ref x :: rest, []⟩) (fun fin s' => ∃ v, fin = .done (.ret v) ∧ Q v s') E s) : wpAny (MM w) A (PySem.call (.builtin id) (.ref x :: rest)) Q E s := by
  refine wpAny_call (codeAny_call_builtin hplain hb (accCheck S hx hsplit hkind ha (wpAny_mono hc (fun fin s' h' => ?_) fun _ _ h' => h')))
  obtain ⟨v, rfl, hv⟩ := h'; exact hv
theorem Sit.accAppend {x d : Addr} {vs : List Value} {e : Nat} {v : Value} {Q : Value → Shared → Prop} (S : Sit w n A env o₀ Fs J m ((x, aO vs e d) :: news) s) (hz : vs.length ≤ sizeLine)
    (h : ∀ s', Sit w n A env o₀ Fs J m ((x, aO (vs ++ [v]) (e + 1) d) :: news) s' → Q .none s') : wpAny (MM w) A (PySem.call (.builtin "list.append") [.ref x, v]) Q E s := by
  refine callAcc (n := "append") S S.hd (by decide +kernel) (.inr (by decide +kernel)) (by decide +kernel) PySem.F.entry_list_append (PySem.F.args_list_append_2 _ _) ?_
  show wpAny _ _ (updateSeq x (·.push v) >>= fun _ => ret .none) _ _ s
  refine wpAny_bind (wpAny_updateSeq S.hd rfl (wpAny_pure ⟨.none, rfl, h _ (S.turn (k := s.toks) (Heap.SameBut.update ..) ?_)⟩))
  rw [Heap.get?_update_self _ S.hd (by simp [Obj.mapSeq]; rfl)]
  simp [Obj.mapSeq]
theorem Sit.accLen {x d : Addr} {vs : List Value} {e : Nat} {Q : Value → Shared → Prop} (S : Sit w n A env o₀ Fs J m news s) (hx : s.heap.get? x = some (aO vs e d))
    (h : ∀ t s', Sit w n A env o₀ Fs J m news s' → Q (.int vs.length t) s') : wpAny (MM w) A (PySem.call (.builtin "list.__len__") [.ref x]) Q E s := by
  refine callAcc (n := "__len__") S hx (by decide +kernel) (.inl (by decide +kernel)) (by decide +kernel) PySem.F.entry_list_len (PySem.F.args_list_len_1 _) ?_
  have h := h s.toks _ (S.toks (s.toks + 1))
  obtain ⟨hp, g, dd, tk, os⟩ := s
  wp_walk
  exact ⟨_, rfl, by simpa using h⟩
theorem Sit.accPop {x d : Addr} {vs : List Value} {e : Nat} {v : Value} {Q : Value → Shared → Prop} (S : Sit w n A env o₀ Fs J m ((x, aO (vs ++ [v]) e d) :: news) s) (hz : vs.length ≤ 1000)
    (h : ∀ s', Sit w n A env o₀ Fs J m ((x, aO vs (e + 1) d) :: news) s' → Q v s') : wpAny (MM w) A (PySem.call (.builtin "list.pop") [.ref x]) Q E s := by
  refine callAcc (n := "pop") S S.hd (by decide +kernel) (.inr (by decide +kernel)) (by decide +kernel) PySem.F.entry_list_pop (PySem.F.args_list_pop_1 _) ?_
  have hl := S.hd
  have h : ∀ h', Heap.SameBut x s.heap h' → h'.get? x = some (aO vs (e + 1) d) → Q v { s with heap := h' } := fun h' hs hg => h _ (S.turn (k := s.toks) hs hg)
  obtain ⟨hp, g, dd, tk, os⟩ := s
  have hsz : (vs ++ [v]).toArray.size = vs.length + 1 := by simp
  have hy : (vs ++ [v]).toArray[(vs ++ [v]).toArray.size - 1]? = some v := by rw [hsz]; simp
  have hne : ¬ (vs ++ [v]).toArray.isEmpty = true := by simp
  have hk : seqIndex? (-1) (vs ++ [v]).toArray.size = some ((vs ++ [v]).toArray.size - 1) := by
    rw [seqIndex_neg (by omega) (by omega)]; congr 1; omega
  wp_walk using wpAny_loadPart' hl
  simp only [hk, hy, Option.bind_some, Option.map_some]
  have hs1 : (vs ++ [v]).toArray.size ≤ sizeLine := by rw [hsz, sizeLine_eq]; omega
  have hz' : ((vs ++ [v]).toArray.eraseIdxIfInBounds ((vs ++ [v]).toArray.size - 1)).size ≤ sizeLine + 1 := by rw [sizeLine_eq] at hs1 ⊢; simp [List.length_eraseIdx]; omega
  wp_walk using (wpAny_updateSeq hl rfl (hz := hs1) (_hz' := hz')), wpAny_loadPart' hl
  refine ⟨_, rfl, h _ (Heap.SameBut.update ..) ?_⟩
  have e1 : (vs ++ [v]).eraseIdx vs.length = vs := by rw [List.eraseIdx_append_of_length_le (Nat.le_refl _)]; simp
  rw [Heap.get?_update_self _ hl (by simp [Obj.mapSeq]; rfl)]
  simp [Obj.mapSeq, e1]
theorem entry_list_ga : entryFor table "list.__getattribute__" = some Builtin.«object.__getattribute__» :=
  entryFor_alias (id' := "object.__getattribute__") (by kernel_rfl) (by first | rfl | decide +kernel) (by decide +kernel) (by kernel_rfl)
theorem Sit.accGet {x d : Addr} {vs : List Value} {e : Nat} {es : List DictEntry} {k : Nat} {name : Str} {v : Value} {attr : Option Value} {expr : Bool} {Q : Value → Shared → Prop} (S : Sit w n A env o₀ Fs J m news s) (hx : s.heap.get? x = some (aO vs e d)) (hd : s.heap.get? d = some (dictOf es k))
    (ha : findIn (Mine.hd.heap_1 w.params) (.ref 178) name = some attr) (hn : noGet (Mine.hd.heap_1 w.params) attr = true) (hl : getL name es = some (some v)) (hv : handedIn v = true)
    (h : ∀ s', Sit w n A env o₀ Fs J m news s' → Q v s') : wpAny (MM w) A (getAttr (.ref x) name expr) Q E s := by
  have I : InstAt s.heap x (aO vs e d) 178 (some (dictOf es k)) := ⟨hx, rfl, rfl, hd⟩
  have X := S.X
  have hh : hasDictIn (Mine.hd.heap_1 w.params) 178 = true := by k_is
  have hga : findIn (Mine.hd.heap_1 w.params) (.ref 178) "__getattribute__" = some (some (.builtin "list.__getattribute__")) := by k_is
  have hk : findIn (Mine.hd.heap_1 w.params) (.ref 178) "__getattr__" = some none := by k_is
  have L0 := I.type (M := MM w)
  have L1 := looks_findIn (M := MM w) X hga
  have L2 := looks_findIn (M := MM w) X hk
  have L3 := looks_find (M := MM w) X I (findObj_own hh ha hn hl)
  unfold getAttr getAttrBy
  have S1 := S.toks (s.toks + 1)
  refine wpAny_bind (wpAny_mkText (wpAny_holding (wpAny_bind (L0.here (s := { s with toks := s.toks + 1 }) (wpAny_bind (L1.here (s := { s with toks := s.toks + 1 }) ?_))))))
  dsimp only
  rw [if_neg (by decide)]
  unfold getAttrByItsOwn hookBefore
  rw [if_pos (by rfl)]
  refine wpAny_bind (L2.here (s := { s with toks := s.toks + 1 }) ?_)
  refine wpAny_bind (wpAny_attempt (wpAny_holding ?_))
  have e1 : callGetattribute (.ref x) (.str name s.toks) (.builtin "list.__getattribute__") expr = boundAndCalled (.builtin "list.__getattribute__") (.ref x) (.str name s.toks) := by
    unfold callGetattribute
    rw [if_neg (by cases expr <;> decide)]
  rw [e1]
  unfold boundAndCalled
  rw [PySem.F.slot_list_getattribute.bind]
  refine wpAny_bind (wpAny_pure ?_)
  refine callAcc (n := "__getattribute__") S1 hx (by decide +kernel) (.inl (by decide +kernel)) (by decide +kernel) entry_list_ga (PySem.F.args_list_getattribute_2 _ _) ?_
  refine wpAny_bind (wpAny_pure (wpAny_bind (wpAny_pure (wpAny_bind (L0.here (s := { s with toks := s.toks + 1 }) (wpAny_bind (L3.here (s := { s with toks := s.toks + 1 }) ?_)))))))
  refine wpAny_pure ⟨_, rfl, ?_⟩
  show wpAny _ _ (handedOut v) _ _ _
  rw [handedOut_of hv]
  exact wpAny_pure (h _ S1)
theorem refuse_acc (self : Value) : refuseLoop self "__setattr__" [.ref 178, .type "list", .type "object"] = pure () := by
  rw [refuseLoop_ref]
  have e : refuseLoop self "__setattr__" [.type "list", .type "object"] = refuseLoop self "__setattr__" [.type "object"] := by kernel_rfl
  rw [e]
  exact PySem.F.store_object.passes self
theorem cls_of {K : Frag} {C : Addr} {o : Obj} {cd : ClassData} (ho : K.lookup C = some o) (hd : o.data = .cls cd) : clsIn K C = some cd := by
  obtain ⟨a, b, c, d⟩ := o
  dsimp only at hd
  subst hd
  unfold clsIn
  rw [ho]
theorem mro_acc : ∃ cd, clsIn (Mine.hd.heap_1 w.params) 178 = some cd ∧ cd.mro = [.ref 178, .type "list", .type "object"] ∧ cd.hasDict = true := by
  refine' ⟨_, cls_of ?ho ?hd, ?m, ?h⟩
  case ho => k_is
  case hd => rfl
  case m => rfl
  case h => rfl
end
-- text AS
section
variable {w : World} {n : Nat} {A : Around} {env : Env} {o₀ : OsState} {Fs J : Know} {m : Loc} {news : Led} {s : Shared} {E : Value → Shared → Prop}
theorem Sit.setDict {x C dx : Addr} {ox : Obj} {es : List DictEntry} {k : Nat} {name : Str} {v : Value} {cd : ClassData} {Q : Unit → Shared → Prop} (S : Sit w n A env o₀ Fs J m ((dx, dictOf es k) :: news) s)
    (hx : s.heap.get? x = some ox) (hcl : ox.cls = .ref C) (hno : notCls ox = true) (hdx : ox.dict = some dx) (hc : clsIn (Mine.hd.heap_1 w.params) C = some cd) (hrf : refuseLoop (.ref x) "__setattr__" cd.mro = pure ()) (hhd : cd.hasDict = true)
    (hob : mroIn (Mine.hd.heap_1 w.params) C (.type "object") = some true) (hs : findIn (Mine.hd.heap_1 w.params) (.ref C) "__setattr__" = some (some (.builtin "object.__setattr__"))) (ha : findIn (Mine.hd.heap_1 w.params) (.ref C) name = some none)
    (hl : (getL name es).isSome = true) (hz : (putL name (PyData.keyHash w.params name) (.str name 0) v es).length ≤ 1000) (hzz : ∀ tk, (putL name (PyData.keyHash w.params name) (.str name tk) v es).length ≤ 1000)
    (h : ∀ tk s', Sit w n A env o₀ Fs J m ((dx, dictOf (putL name (PyData.keyHash w.params name) (.str name tk) v es) (putN name es k)) :: news) s' → Q () s') : wpAny (MM w) A (setAttr (.ref x) name v) Q E s := by
  have X := S.X
  have I : InstAt s.heap x ox C (some (dictOf es k)) := ⟨hx, hcl, hno, by rw [hdx]; exact S.hd⟩
  refine set_plain X I hs ?_
  have SF := PySem.F.store_object
  have I1 : InstAt ({ s with toks := s.toks + 1 } : Shared).heap x ox C (some (dictOf es k)) := I
  have sub : Looks (MM w) s.heap (isInstance (.ref x) (.type "object")) true := I.type.andThen (looks_mroIn X hob)
  refine codeAny_call_builtin SF.slot.plain SF.entry (@check_slot (MM w) _ _ { s with toks := s.toks + 1 } "object.__setattr__" "object" "__setattr__" (.ref x) [.str name s.toks, v] [] _ SF.kind SF.split sub (SF.args (.ref x) (.str name s.toks) v) ?_)
  have hm : Looks (MM w) s.heap (mroOf (.ref C)) cd.mro := (looks_clsIn X hc).andThen .now
  rw [osa_eq, refuse_eq]
  refine wpAny_bind (wpAny_bind (I.type.here (s := { s with toks := s.toks + 1 }) (wpAny_bind (hm.here (s := { s with toks := s.toks + 1 }) ?_))))
  rw [hrf]
  refine wpAny_pure (wpAny_bind (I.type.here (s := { s with toks := s.toks + 1 }) (wpAny_bind ((looks_findIn X ha).here (s := { s with toks := s.toks + 1 }) (wpAny_bind (wpAny_pure ?_))))))
  obtain ⟨oc, odi, oda, osl⟩ := ox
  dsimp only at hcl hdx
  subst hcl hdx
  dsimp only
  have D := S.hd
  refine wpAny_bind (wpAny_pure (wpAny_bind (wpAny_bind (wpAny_loadPart (s := { s with toks := s.toks + 1 }) hx (wpAny_bind ((looks_clsIn X hc).here (s := { s with toks := s.toks + 1 }) ?_))))))
  rw [hhd]
  refine wpAny_pure (a := some dx) (wpAny_bind (wpAny_pure (wpAny_bind ?_)))
  unfold nsSet
  refine wpAny_bind (wpAny_bind (wpAny_askSetting (wpAny_pure (wpAny_bind (wpAny_mkText (wpAny_bind (wpAny_loadPart D ?_)))))))
  have hl' : (lookIn name (dictOf es k)).isSome = true := hl
  unfold lookIn at hl'
  have e1 := putName_dict name (PyData.keyHash w.params name) (.str name (s.toks + 1)) v es k
  have D' : (s.heap.update dx (Obj.putName name (PyData.keyHash w.params name) (.str name (s.toks + 1)) v)).get? dx = some (dictOf (putL name (PyData.keyHash w.params name) (.str name (s.toks + 1)) v es) (putN name es k)) := by
    rw [Heap.get?_update_self _ D (by rw [e1]; rfl), e1]
  split at hl'
  · rename_i es₀ n₀ q
    rw [q]
    dsimp only
    have c : (!es₀.any (·.key.isStr name) && es₀.any (·.refKey)) = false := by
      rw [← Array.any_toList, ← Array.any_toList]
      split at hl'
      · rename_i en he
        rw [List.any_eq_true.mpr ⟨en, List.mem_of_find?_eq_some he, List.find?_some he⟩]; rfl
      · split at hl'
        · cases hl'
        · rename_i z; rw [Bool.not_eq_true] at z; rw [z, Bool.and_false]
    rw [aRefKeyMayBeTheName_at, c]
    refine wpAny_updatePart D ?_
    refine wpAny_bind (wpAny_lookBehind D' (pastItsLine_dict (by rw [List.size_toArray, sizeLine_eq]; have := hzz (s.toks + 1); omega)) ?_)
    exact wpAny_pure (h _ _ (S.turn (k := _) (Heap.SameBut.update ..) D'))
  · rename_i hne
    exact (hne _ _ rfl).elim
end
-- text DC
section
variable {w : World} {n : Nat} {A : Around} {env : Env} {o₀ : OsState} {Fs J : Know} {m : Loc} {news : Led} {s : Shared} {E : Value → Shared → Prop}
theorem Sit.defcode (S : Sit w (n + 1) A env o₀ Fs J m news s) {f : Addr} {args : List Value} {kw : List (Str × Value)} {o : Obj} {fd : FuncData} {body : List Stmt} {binds : List (Str × Value)} {R : Result → Shared → Prop}
    (ho : (Mine.hd.heap_1 w.params).lookup f = some o) (hd : o.data = .func fd) (hbody : fd.body = .stmts body) (hcode : codeIn (Mine.hd.heap_1 w.params) fd.code fd.qualname = true) (hbind : BindsTo s fd ⟨args, kw⟩ binds)
    (hcell : ∀ x ∈ fd.scope.names, x.2 ≠ .cell) (hloc : ∀ x ∈ binds, fd.scope.names.lookup x.1 = some .local) (hgl : fd.globals = mainGlobals) (hbl : fd.builtins = builtinsNs)
    (hco : fd.scope.isCoroutine = false) (hgen : fd.scope.isGenerator = false) (hk : fd.scope.kind = .function)
    (h : ∀ env' s₁ E' Fs', env'.scope = fd.scope → env'.cells = fd.closure → env'.code = fd.code → env'.qual = fd.qualname ++ ".<locals>." → (∃ fs, (A.deeper env').frames = some (env' :: fs)) → Sit w n (A.deeper env') env' o₀ Fs' J (fun x => binds.reverse.lookup x) news s₁ →
      wpAny (MM w) (A.deeper env') (execs body env') (Back w n A env env' o₀ Fs Fs' m (fun v s' => R (.ok (.ret v)) s')) E' s₁) :
    codeAny (MM w) A (.call (.ref f) ⟨args, kw⟩) R s := by
  have X := S.X
  refine codeAny_call_def (by have := S.room; omega) (X _ _ ho) hd S.nolimit (codeRec_of X hcode) hbody hbind hcell hloc (fun h₁ hns hk₁ => ?_) hco hgen hk
  obtain ⟨oL, esL, epL, hL, rL⟩ := S.ns
  have ne : ∀ {a : Addr} {x : Obj}, s.heap.get? a = some x → a ≠ s.heap.objs.size := fun e => Nat.ne_of_lt (Heap.lt_size e)
  have hLn : env.locals ∉ news.map (·.1) := fun q => by
    obtain ⟨p, hp, e⟩ := List.mem_map.mp q
    exact (S.nw p hp).2 e
  have S₁ : Sit w n (A.deeper (callEnv fd s.heap.objs.size f)) (callEnv fd s.heap.objs.size f) o₀ (FsOf Fs env.locals s.heap) J (fun x => binds.reverse.lookup x) news { s with heap := h₁, toks := s.toks + binds.length } := by
    refine ⟨hns, fun a x e => ?_, fun a x e => ?_, fun p hp => ⟨hk₁ _ _ (S.nw p hp).1, ne (S.nw p hp).1⟩, S.nd, S.st, ?_, hk, hgl, hbl, S.hh, ?_, ?_, S.os, S.bare⟩
    · rcases e with e | ⟨rfl, e⟩
      · obtain ⟨h1, h2, h3⟩ := S.lf a x e
        exact ⟨hk₁ _ _ h1, ne h1, h3⟩
      · exact ⟨hk₁ _ _ e, ne e, hLn⟩
    · obtain ⟨h1, h2, h3, h4⟩ := S.lj a x e
      refine ⟨hk₁ _ _ h1, ne h1, h3, fun y q => ?_⟩
      rcases q with q | ⟨q, _⟩
      · exact h4 y q
      · exact h2 q
    · obtain ⟨fs, hA⟩ := S.fr
      exact ⟨_ :: fs, by show A.frames.map _ = _; rw [hA]; rfl⟩
    · have := S.room; show A.depth + 1 + n < _; omega
    · have := S.units; show A.units + 3 + 16 * n < _; omega
  refine wpAny_mono (h _ _ _ _ rfl rfl rfl rfl (let ⟨fs, hA⟩ := S.fr; ⟨fs, by show A.frames.map _ = _; rw [hA]; rfl⟩) S₁) (fun fl s' hb => ?_) fun _ _ e => e
  obtain ⟨J', m', news', S', hq⟩ := hb
  suffices hh : R (.ok (.ret (retv fl))) s' by cases fl <;> exact hh
  refine hq ?_
  have keepL := S'.lf env.locals oL (.inr ⟨rfl, hL⟩)
  refine ⟨⟨oL, esL, epL, keepL.1, rL⟩, fun a x q => ?_, fun a x q => ?_, fun p hp => ⟨(S'.nw p hp).1, fun q => keepL.2.2 (by rw [← q]; exact List.mem_map_of_mem hp)⟩, S'.nd, S'.st, S.fr, S.hk, S.hg, S.hb, S.hh, S.room, S.units, S'.os, S'.bare⟩
  · obtain ⟨h1, h2, h3⟩ := S'.lf a x (.inl q)
    exact ⟨h1, (S.lf a x q).2.1, h3⟩
  · obtain ⟨h1, h2, h3, h4⟩ := S'.lj a x q
    exact ⟨h1, fun z => h4 oL (.inr ⟨z, z ▸ hL⟩), h3, fun y z => h4 y (.inl z)⟩
end
-- text MK
section
variable {w : World} {n : Nat} {A : Around} {env : Env} {o₀ : OsState} {Fs J : Know} {m : Loc} {news : Led} {s : Shared} {E : Value → Shared → Prop}
theorem Sit.underC (S : Sit w (n + 1) A env o₀ Fs J m news s) {C : Addr} {rest : List Value} {kw : List (Str × Value)} : Sit w n (A.under (.builtin "type.__call__" ⟨.ref C :: rest, kw⟩)) env o₀ Fs J m news s := by
  obtain ⟨fs, hfs⟩ := S.fr
  refine ⟨S.ns, S.lf, S.lj, S.nw, S.nd, S.st, ⟨fs, ?_⟩, S.hk, S.hg, S.hb, S.hh, ?_, ?_, S.os, S.bare⟩
  · show pushEnvs [] A.frames = some fs
    rw [hfs]; rfl
  · have := S.room; show A.depth + 1 + n < _; omega
  · have := S.units; show A.units + 1 + 16 * n < _; omega
theorem Sit.make {C fI : Addr} {rest : List Value} {Q : Value → Shared → Prop} (S : Sit w (n + 1) A env o₀ Fs J m news s) (hm : makesIn (Mine.hd.heap_1 w.params) C = true) (hi : findIn (Mine.hd.heap_1 w.params) (.ref C) "__init__" = some (some (.ref fI))) (hf : typeIn (Mine.hd.heap_1 w.params) (.ref fI) = some (.type "function"))
    (h : ∀ x dx s', Sit w n (A.under (.builtin "type.__call__" ⟨.ref C :: rest, []⟩)) env o₀ Fs J m ((x, instObj C dx) :: (dx, dictOf [] 0) :: news) s' → (∀ s'', Sit w n (A.under (.builtin "type.__call__" ⟨.ref C :: rest, []⟩)) env o₀ Fs J m news s'' → Sit w (n + 1) A env o₀ Fs J m news s'') →
      codeAny (MM w) (A.under (.builtin "type.__call__" ⟨.ref C :: rest, []⟩)) (.call (.ref fI) ⟨.ref x :: rest, []⟩) (InitBack x fun r s' => match r with | .ok (.ret v) => Q v s' | .ok _ => False | .error e => E e s') s') :
    wpAny (MM w) A (PySem.call (.ref C) rest) Q E s := by
  have X := S.X
  have S2 := (S.push (k := s.toks) emptyDict).push (k := s.toks) (instObj C s.heap.objs.size)
  obtain ⟨hh, g, d, t, os⟩ := s
  refine wpAny_call (make_core (makes_of X hm) (looks_findIn X hi) (fun self => bind_fn X self hf) (.inl rfl) ?_)
  rw [Heap.size_push] at S2
  exact h _ hh.objs.size _ S2.underC fun s'' S'' => S''.around S
end
-- text SP
section
variable {w : World} {n : Nat} {A : Around} {env : Env} {o₀ : OsState} {Fs J : Know} {m : Loc} {news : Led} {s : Shared} {E : Value → Shared → Prop}
theorem Sit.defcodeS (S : Sit w (n + 1) A env o₀ Fs J m news s) {f : Addr} {args : List Value} {kw : List (Str × Value)} {o : Obj} {fd : FuncData} {body : List Stmt} {binds : List (Str × Value)} {R : Result → Shared → Prop}
    (ho : (Mine.hd.heap_1 w.params).lookup f = some o) (hd : o.data = .func fd) (hbody : fd.body = .stmts body) (hcode : codeIn (Mine.hd.heap_1 w.params) fd.code fd.qualname = true) (hbind : BindsTo s fd ⟨args, kw⟩ binds)
    (hcell : ∀ x ∈ fd.scope.names, x.2 ≠ .cell) (hloc : ∀ x ∈ binds, fd.scope.names.lookup x.1 = some .local) (hgl : fd.globals = mainGlobals) (hbl : fd.builtins = builtinsNs)
    (hco : fd.scope.isCoroutine = false) (hgen : fd.scope.isGenerator = false) (hk : fd.scope.kind = .function)
    (h : ∀ env' s₁ E' Fs', env'.scope = fd.scope → env'.cells = fd.closure → env'.code = fd.code → env'.func = some f → Sit w n (A.deeper env') env' o₀ Fs' J (fun x => binds.reverse.lookup x) news s₁ →
      _root_.PySem.wpAt (MM w) (A.deeper env') (.func body env') (execs body env') (Back w n A env env' o₀ Fs Fs' m (fun v s' => R (.ok (.ret v)) s')) E' s₁) :
    codeAny (MM w) A (.call (.ref f) ⟨args, kw⟩) R s := by
  have X := S.X
  refine ks_codeAny_call_defAt (by have := S.room; omega) (X _ _ ho) hd S.nolimit (codeRec_of X hcode) hbody hbind hcell hloc (fun h₁ hns hk₁ => ?_) hco hgen hk
  obtain ⟨oL, esL, epL, hL, rL⟩ := S.ns
  have ne : ∀ {a : Addr} {x : Obj}, s.heap.get? a = some x → a ≠ s.heap.objs.size := fun e => Nat.ne_of_lt (Heap.lt_size e)
  have hLn : env.locals ∉ news.map (·.1) := fun q => by
    obtain ⟨p, hp, e⟩ := List.mem_map.mp q
    exact (S.nw p hp).2 e
  have S₁ : Sit w n (A.deeper (callEnv fd s.heap.objs.size f)) (callEnv fd s.heap.objs.size f) o₀ (FsOf Fs env.locals s.heap) J (fun x => binds.reverse.lookup x) news { s with heap := h₁, toks := s.toks + binds.length } := by
    refine ⟨hns, fun a x e => ?_, fun a x e => ?_, fun p hp => ⟨hk₁ _ _ (S.nw p hp).1, ne (S.nw p hp).1⟩, S.nd, S.st, ?_, hk, hgl, hbl, S.hh, ?_, ?_, S.os, S.bare⟩
    · rcases e with e | ⟨rfl, e⟩
      · obtain ⟨h1, h2, h3⟩ := S.lf a x e
        exact ⟨hk₁ _ _ h1, ne h1, h3⟩
      · exact ⟨hk₁ _ _ e, ne e, hLn⟩
    · obtain ⟨h1, h2, h3, h4⟩ := S.lj a x e
      refine ⟨hk₁ _ _ h1, ne h1, h3, fun y q => ?_⟩
      rcases q with q | ⟨q, _⟩
      · exact h4 y q
      · exact h2 q
    · obtain ⟨fs, hA⟩ := S.fr
      exact ⟨_ :: fs, by show A.frames.map _ = _; rw [hA]; rfl⟩
    · have := S.room; show A.depth + 1 + n < _; omega
    · have := S.units; show A.units + 3 + 16 * n < _; omega
  refine ks_wpAt_mono (h _ _ _ _ rfl rfl rfl rfl S₁) (fun fl s' hb => ?_) fun _ _ e => e
  obtain ⟨J', m', news', S', hq⟩ := hb
  suffices hh : R (.ok (.ret (retv fl))) s' by cases fl <;> exact hh
  refine hq ?_
  have keepL := S'.lf env.locals oL (.inr ⟨rfl, hL⟩)
  refine ⟨⟨oL, esL, epL, keepL.1, rL⟩, fun a x q => ?_, fun a x q => ?_, fun p hp => ⟨(S'.nw p hp).1, fun q => keepL.2.2 (by rw [← q]; exact List.mem_map_of_mem hp)⟩, S'.nd, S'.st, S.fr, S.hk, S.hg, S.hb, S.hh, S.room, S.units, S'.os, S'.bare⟩
  · obtain ⟨h1, h2, h3⟩ := S'.lf a x (.inl q)
    exact ⟨h1, (S.lf a x q).2.1, h3⟩
  · obtain ⟨h1, h2, h3, h4⟩ := S'.lj a x q
    exact ⟨h1, fun z => h4 oL (.inr ⟨z, z ▸ hL⟩), h3, fun y z => h4 y (.inl z)⟩
abbrev supO (x : Addr) : Obj := ks_superObj 178 x 178
abbrev bndO (T : String) (id : String) (x : Addr) : Obj := { cls := .type T, data := .fields #[.builtin id, .ref x] }
theorem cell_acc : ∃ oc, (Mine.hd.heap_1 w.params).lookup 102 = some oc ∧ oc.data = .cell (some (.ref 178)) := by
  exact ⟨⟨.type "cell", none, .cell (some (.ref 178)), #[]⟩, by kernel_rfl, rfl⟩
-- super() in a method of the accumulator: the object that speaks for list
theorem Sit.superB {body : List Stmt} {p0 p1 : Pos} {attr : Str} {whole : Sem Value} {x d : Addr} {vs : List Value} {e : Nat} {f : Addr} {o : Obj} {fd : FuncData} {ar : Arg} {Q : Value → Shared → Prop} (S : Sit w n A env o₀ Fs J m news s)
    (ho : (Mine.hd.heap_1 w.params).lookup f = some o) (hd : o.data = .func fd) (hp : (fd.params.posonlyargs ++ fd.params.args).head? = some ar) (har : ar.arg = Str.ofString "self") {cda : Addr} {oc : Obj} {cvs : Array Value} {file : Str} {tf : Tok} (hcda : env.code = .ref cda)
    (hcode : (Mine.hd.heap_1 w.params).lookup cda = some oc) (hcd : oc.data = .fields cvs) (hvs : cvs[2]? = some (.str file tf)) (hfile : ((prg.main.file : Str) == file) = true)
    (hfu : env.func = some f) (hcl : env.cells = [(Str.ofString "__class__", 102)]) (hks : env.kindOf "super" = some .globalImplicit) (hkc : env.kindOf "__class__" = some .free) (hka : env.kindOf "self" = some .local)
    (hat : (attr == ("__class__" : Str)) = false) (hv : m (Str.ofString "self") = some (.ref x)) (hx : s.heap.get? x = some (aO vs e d))
    (h : ∀ so s', Sit w n A env o₀ Fs J m ((so, supO x) :: news) s' → Q (.ref so) s') :
    _root_.PySem.wpAt (MM w) A (.func body env) (attributeBase (.Call (.Name "super" p0) [] [] p1) attr env whole) Q E s := by
  have X := S.X
  obtain ⟨p, loose, mean, mg, mb, T⟩ := S.T
  have htop : (prg.main.scope.names.lookup ("super" : Str)).isSome = false := by decide +kernel
  have hsup : nsIn (Mine.hd.heap_1 w.params) mainGlobals "super" = some none := by k_is
  have hboot : bootBuiltins "super" = some (.type "super") := by first | boot_fast | boot_by_name
  obtain ⟨cd, hC, hmro, _⟩ := mro_acc (w := w)
  have hsub : mroIn (Mine.hd.heap_1 w.params) 178 (.ref 178) = some true := by k_is
  obtain ⟨oD, hD1, hD2⟩ : ∃ oD, s.heap.get? 178 = some oD ∧ oD.data = .cls cd := by
    unfold clsIn at hC
    split at hC
    · rename_i c d cd' sl ho
      cases hC
      exact ⟨_, X _ _ ho, rfl⟩
    · cases hC
  refine' ks_wpAt_super_base (env := env) hks hkc hat hfu (X _ _ ho) hd hp hcda (X _ _ hcode) hcd hvs hfile htop ?_
  refine ks_loadName_global S.hk hks (loadGlobal_builtin (env := env) (by rw [S.hg]; exact T.g) (mg_none_of X T.g hsup) (by rw [S.hb]; exact T.b) ((T.builtins _ (by decide +kernel)).trans hboot) ⟨rfl, ?_⟩)
  obtain ⟨oc2, hc2, hc3⟩ := cell_acc (w := w)
  refine wpAny_loadName_free S.hk hkc (c := 102) (by rw [hcl]; rfl) (v := .ref 178) ⟨_, X _ _ hc2, hc3⟩ ?_
  rw [har]
  refine wpAny_loadName_local S.hk hka S.ns hv ?_
  obtain ⟨hh, g, dd, t, os⟩ := s
  refine ks_wpAny_isType_cls hD1 hD2 ⟨rfl, ?_⟩
  refine ks_wpAny_call_super hD1 hD2 hx rfl (fun c e => by cases e) (looks_mroIn X hsub) (fun h' e k => ?_)
  refine h _ _ ?_
  have S2 := S.keeps (h' := h') (k := t) k
  have fresh : hh.get? hh.objs.size = none := by
    cases q : hh.get? hh.objs.size with
    | none => rfl
    | some y => exact absurd (Heap.lt_size q) (Nat.lt_irrefl _)
  refine S.move (s' := ⟨h', g, dd, t, os⟩) S2.ns (fun a o _ _ e => k a o e) (fun p hp => ?_) (fun p hp => ?_) ?_ rfl S.bare
  · rcases List.mem_cons.mp hp with rfl | hp
    · exact e
    · exact k _ _ (S.nw p hp).1
  · rcases List.mem_cons.mp hp with rfl | hp
    · exact .inr fresh
    · exact .inl (List.mem_map_of_mem hp)
  · refine List.nodup_cons.mpr ⟨fun hm => ?_, S.nd⟩
    obtain ⟨p, hp, e⟩ := List.mem_map.mp hm
    have := (S.nw p hp).1
    rw [e] at this
    rw [show (⟨hh, g, dd, t, os⟩ : Shared).heap.get? hh.objs.size = none from fresh] at this; cases this
end
-- text SQ
section
variable {w : World} {n : Nat} {A : Around} {env : Env} {o₀ : OsState} {Fs J : Know} {m : Loc} {news : Led} {s : Shared} {E : Value → Shared → Prop}
theorem md_get {x C d0 : Addr} {vs : List Value} {e : Nat} {id : String} {Q : PySem.Fin → Shared → Prop} {h : Heap} {g : Array GenState} {d : Drawn} {t : Nat} {os : OsState} (X : (Mine.hd.heap_1 w.params).In h) (hx : h.get? x = some (aO vs e d0)) (hc : Manifest.toldItsClass.contains id = false)
    (hid : (".".intercalate (id.cutAt '.').dropLast) = "list")
    (hq : Q (.done (.ret (.ref h.objs.size))) ⟨h.push (bndO "builtin_function_or_method" id x), g, d, t, os⟩) : wpAny (MM w) A (Builtin.«method_descriptor.__get__» ⟨[.builtin id, .ref x, .ref C], []⟩) Q E ⟨h, g, d, t, os⟩ := by
  unfold Builtin.«method_descriptor.__get__»
  have hsub := looks_mroIn (M := MM w) X (C := 178) (base := .type "list") (r := true) (by k_is)
  repeat (first | wp_step | simp only [hc, Bool.false_eq_true, if_false] | dsimp only)
  rw [hid]
  refine hsub.at ?_
  simp only [Bool.not_true, Bool.false_eq_true, if_false]
  exact wpAny_pure (wpAny_bind (wpAny_newObj_type (wpAny_pure hq)))
theorem wd_get {x C d0 : Addr} {vs : List Value} {e : Nat} {id : String} {Q : PySem.Fin → Shared → Prop} {h : Heap} {g : Array GenState} {d : Drawn} {t : Nat} {os : OsState} (X : (Mine.hd.heap_1 w.params).In h) (hx : h.get? x = some (aO vs e d0))
    (hid : (".".intercalate (id.cutAt '.').dropLast) = "list")
    (hq : Q (.done (.ret (.ref h.objs.size))) ⟨h.push (bndO "method-wrapper" id x), g, d, t, os⟩) : wpAny (MM w) A (Builtin.«wrapper_descriptor.__get__» ⟨[.builtin id, .ref x, .ref C], []⟩) Q E ⟨h, g, d, t, os⟩ := by
  unfold Builtin.«wrapper_descriptor.__get__»
  have hsub := looks_mroIn (M := MM w) X (C := 178) (base := .type "list") (r := true) (by k_is)
  repeat (first | wp_step | dsimp only)
  rw [hid]
  refine hsub.at ?_
  simp only [Bool.not_true, Bool.false_eq_true, if_false]
  exact wpAny_pure (wpAny_bind (wpAny_newObj_type (wpAny_pure hq)))
theorem slot_md : Slot "method_descriptor" "__get__" "method_descriptor.__get__" := .of (owner := "method_descriptor") (n := "__get__") (by rw [typeLookup_type, builtinLookup_eq_fast]; kernel_rfl) (by decide +kernel) (by decide +kernel) (by decide +kernel)
  (by first | exact .inl (by decide +kernel) | exact .inr (by decide +kernel)) (by rw [isSubtype_type]; kernel_rfl)
theorem slot_wd : Slot "wrapper_descriptor" "__get__" "wrapper_descriptor.__get__" := .of (owner := "wrapper_descriptor") (n := "__get__") (by rw [typeLookup_type, builtinLookup_eq_fast]; kernel_rfl) (by decide +kernel) (by decide +kernel) (by decide +kernel)
  (by first | exact .inl (by decide +kernel) | exact .inr (by decide +kernel)) (by rw [isSubtype_type]; kernel_rfl)
theorem entry_md : entryFor table "method_descriptor.__get__" = some Builtin.«method_descriptor.__get__» := entryFor_of_tree (by kernel_rfl)
theorem entry_wd : entryFor table "wrapper_descriptor.__get__" = some Builtin.«wrapper_descriptor.__get__» := entryFor_of_tree (by kernel_rfl)
theorem args_md (a b c : Value) : argsOk "method_descriptor.__get__" ⟨[a, b, c], []⟩ := by unfold argsOk; kernel_rfl
theorem args_wd (a b c : Value) : argsOk "wrapper_descriptor.__get__" ⟨[a, b, c], []⟩ := by unfold argsOk; kernel_rfl
/-- what binds a builtin of list to the accumulator -/
structure Binds (id T D : String) : Prop where
  ty : typeOf (.builtin id) = pure (.type D)
  lk : ∃ g, typeLookup (.type D) "__get__" = pure (some (.builtin g)) ∧ ∀ (w : World) (A : Around) (E : Value → Shared → Prop) (x C d0 : Addr) (vs : List Value) (e : Nat) (Q : Value → Shared → Prop) (h : Heap) (gg : Array GenState) (d : Drawn) (t : Nat) (os : OsState),
    (Mine.hd.heap_1 w.params).In h → h.get? x = some (aO vs e d0) → Q (.ref h.objs.size) ⟨h.push (bndO T id x), gg, d, t, os⟩ → wpAny (MM w) A (PySem.call (.builtin g) [.builtin id, .ref x, .ref C]) Q E ⟨h, gg, d, t, os⟩
theorem binds_m {id : String} (ty : typeOf (.builtin id) = pure (.type "method_descriptor")) (hc : Manifest.toldItsClass.contains id = false) (hid : (".".intercalate (id.cutAt '.').dropLast) = "list") : Binds id "builtin_function_or_method" "method_descriptor" :=
  ⟨ty, _, slot_md.lookup, fun w A E x C d0 vs e Q h gg d t os X hx hq => wpAny_call_entry slot_md (show Shared.TypeIs _ (.builtin id) _ from ty) entry_md (md_get X hx hc hid ⟨_, rfl, hq⟩) (args_md _ _ _)⟩
theorem binds_w {id : String} (ty : typeOf (.builtin id) = pure (.type "wrapper_descriptor")) (hid : (".".intercalate (id.cutAt '.').dropLast) = "list") : Binds id "method-wrapper" "wrapper_descriptor" :=
  ⟨ty, _, slot_wd.lookup, fun w A E x C d0 vs e Q h gg d t os X hx hq => wpAny_call_entry slot_wd (show Shared.TypeIs _ (.builtin id) _ from ty) entry_wd (wd_get X hx hid ⟨_, rfl, hq⟩) (args_wd _ _ _)⟩
theorem bPop : Binds "list.pop" "builtin_function_or_method" "method_descriptor" := binds_m (by kernel_rfl) (by decide +kernel) (by decide +kernel)
theorem bLen : Binds "list.__len__" "method-wrapper" "wrapper_descriptor" := binds_w (by kernel_rfl) (by decide +kernel)
theorem bInit : Binds "list.__init__" "method-wrapper" "wrapper_descriptor" := binds_w (by kernel_rfl) (by decide +kernel)
theorem super_ga {so x d0 : Addr} {vs : List Value} {e : Nat} {id T D : String} {name : Str} {tk : Tok} {Q : PySem.Fin → Shared → Prop} {h : Heap} {g : Array GenState} {d : Drawn} {t : Nat} {os : OsState} (B : Binds id T D) (X : (Mine.hd.heap_1 w.params).In h)
    (hso : h.get? so = some (supO x)) (hx : h.get? x = some (aO vs e d0)) (hf : alongIn (Mine.hd.heap_1 w.params) name [.type "list", .type "object"] = some (some (.builtin id))) (hn : (name == ("__class__" : Str)) = false) (hne : x ≠ 178)
    (hq : Q (.done (.ret (.ref h.objs.size))) ⟨h.push (bndO T id x), g, d, t, os⟩) : wpAny (MM w) A (Builtin.«super.__getattribute__» ⟨[.ref so, .str name tk], []⟩) Q E ⟨h, g, d, t, os⟩ := by
  obtain ⟨cd, hC, hmro, _⟩ := mro_acc (w := w)
  have hm : Looks (MM w) h (mroOf (.ref 178)) cd.mro := (looks_clsIn X hC).andThen .now
  have hno := looks_opaque (M := MM w) X (C := 178) (by k_is)
  have hne' : (Value.ref x == Value.ref 178) = false := by simp [hne]
  obtain ⟨gid, hlk, hg⟩ := B.lk
  have hty := B.ty
  have hdt : (supO x).data = .fields #[.ref 178, .ref x, .ref 178] := rfl
  have f0 : (#[.ref 178, .ref x, .ref 178] : Array Value)[0]? = some (.ref 178) := rfl
  have f1 : (#[.ref 178, .ref x, .ref 178] : Array Value)[1]? = some (.ref x) := rfl
  have f2 : (#[.ref 178, .ref x, .ref 178] : Array Value)[2]? = some (.ref 178) := rfl
  have hl : (cd.mro.dropWhile (· != .ref 178)).drop 1 = [.type "list", .type "object"] := by rw [hmro]; rfl
  unfold Builtin.«super.__getattribute__»
  repeat (first
    | (with_reducible refine wpAny_field hso hdt f0 ?_) | (with_reducible refine wpAny_field hso hdt f1 ?_) | (with_reducible refine wpAny_field hso hdt f2 ?_)
    | (with_reducible refine ks_wpAny_notOpaque hno ?_)
    | (with_reducible refine Looks.at hm ?_; rw [hl])
    | (refine ks_forIn_along X (fun _ _ => rfl) rfl ?_ hf)
    | (with_reducible refine wpAny_bind ?_)
    | (simp only [hn, hne', Bool.or_false, Bool.false_eq_true, if_false])
    | (show wpAny _ _ (typeOf (Value.builtin id)) _ _ _; refine wpAny_of_eq hty ?_)
    | (show wpAny _ _ (typeLookup (Value.type D) "__get__") _ _ _; refine wpAny_of_eq hlk ?_)
    | (with_reducible refine hg _ _ _ _ _ _ _ _ _ _ _ _ _ _ X hx ?_)
    | wp_step
    | dsimp only)
  all_goals first | exact hq | trace_state
theorem Sit.superM {so x d0 : Addr} {vs : List Value} {e : Nat} {id T D : String} {name : Str} {pl : Sem Bool} {Q : Value × List Value → Shared → Prop} (B : Binds id T D) (S : Sit w n A env o₀ Fs J m news s)
    (hso : s.heap.get? so = some (supO x)) (hx : s.heap.get? x = some (aO vs e d0)) (hf : alongIn (Mine.hd.heap_1 w.params) name [.type "list", .type "object"] = some (some (.builtin id))) (hn : (name == ("__class__" : Str)) = false)
    (h : ∀ q s', Sit w n A env o₀ Fs J m ((q, bndO T id x) :: news) s' → Q (.ref q, []) s') : wpAny (MM w) A (getMethod (.ref so) name pl) Q E s := by
  have X := S.X
  have hne : x ≠ 178 := by
    rintro rfl
    obtain ⟨cd, hC, hmro, _⟩ := mro_acc (w := w)
    unfold clsIn at hC
    split at hC
    · rename_i c d cd' sl ho
      have e := X _ _ ho
      rw [hx] at e
      cases e
    · cases hC
  have hlk := F.ks_slot_super_ga.lookup
  have hcan := F.ks_canon_super_ga
  obtain ⟨h1, g, d, t, os⟩ := s
  have hT : ∀ t', (⟨h1, g, d, t', os⟩ : Shared).TypeIs (.ref so) "super" := fun _ => ⟨_, hso, rfl⟩
  unfold getMethod
  refine wpAny_bind (wpAny_specialOf (hT _) hlk ?_)
  show wpAny _ _ (if (Manifest.canonical "super.__getattribute__" != "object.__getattribute__") = true then _ else _) _ _ _
  rw [if_pos hcan]
  unfold getAttr getAttrBy
  refine wpAny_bind (wpAny_bind (wpAny_mkText (wpAny_holding (wpAny_bind (wpAny_typeOf (hT _) (wpAny_bind (wpAny_of_eq hlk ?_)))))))
  show wpAny _ _ (getAttrByItsOwn (.ref so) (.str name t) (.type "super") (.builtin "super.__getattribute__") true false) _ _ _
  unfold getAttrByItsOwn hookBefore callGetattribute boundAndCalled
  refine wpAny_bind (wpAny_of_eq (show (if onTheHeap (.type "super") then typeLookup (.type "super") "__getattr__" else pure none) = pure none from rfl) ?_)
  refine wpAny_bind (wpAny_attempt (wpAny_holding ?_))
  show wpAny _ _ (bindSpecial (.builtin "super.__getattribute__") (.ref so) >>= _) _ _ _
  refine wpAny_bind (wpAny_of_eq (F.ks_slot_super_ga.bind _) ?_)
  refine wpAny_mono (Q := fun v s' => v = .ref h1.objs.size ∧ s' = ⟨h1.push (bndO T id x), g, d, t + 1, os⟩) (E := fun _ _ => False)
    (wpAny_call_entry F.ks_slot_super_ga (hT _) F.ks_entry_super_ga (super_ga B X hso hx hf hn hne ⟨_, rfl, rfl, rfl⟩) (F.ks_gaArgs_super _ _)) (fun v s' hv => ?_) fun _ _ z => z.elim
  obtain ⟨rfl, rfl⟩ := hv
  exact wpAny_pure (wpAny_pure (h _ _ (S.push (k := t + 1) (bndO T id x))))
/-- a bound builtin called with nothing -/
theorem callBnd0 {q x : Addr} {id T : String} {pos : Pos} {Q : Value → Shared → Prop} (hT : T = "builtin_function_or_method" ∨ T = "method-wrapper") (hq : s.heap.get? q = some (bndO T id x)) 
    (h : codeAny (MM w) A (.call (.ref q) ⟨[], []⟩) (fun r s' => match r with | .ok (.ret v) => Q v s' | .ok _ => False | .error e => E e s') s) :
    wpAny (MM w) A (callWith pos (.ref q) [] (backTo pos (starEach [] env)) []) Q E s := by
  refine callWith_of (P := fun h => h.get? q = some (bndO T id x)) rfl (fun h hp => ⟨.machine, .inr (.inl rfl), ?_⟩) (evalArgs_nil3 ⟨hq, wpAny_call h⟩)
  refine (Looks.ld (part := none) hp).andThen ?_
  rcases hT with rfl | rfl <;> exact .now
theorem codeBnd0 {q x : Addr} {id T : String} {B : Builtin} {R : Result → Shared → Prop} (hT : T = "builtin_function_or_method" ∨ T = "method-wrapper") (hq : s.heap.get? q = some (bndO T id x)) (hplain : plainId id = true) (hb : entryFor table id = some B)
    (hck : ∀ {Q' : Unit → Shared → Prop} {E' : Value → Shared → Prop}, Q' () s → wpAny (MM w) A.in1 (checkBoundCall id ⟨[.ref x], []⟩) Q' E' s)
    (hc : wpAny (MM w) A.in1 (B ⟨[.ref x], []⟩) (fun fin s' => ∃ v, fin = .done (.ret v) ∧ R (.ok (.ret v)) s') (fun e s' => R (.error e) s') s) : codeAny (MM w) A (.call (.ref q) ⟨[], []⟩) R s := by
  refine codeAny_of_tree ?_
  show wpAny _ A.in1 (callAny (.ref q) _) _ _ _
  unfold callAny
  refine wpAny_bind (wpAny_load hq ?_)
  rcases hT with rfl | rfl
  all_goals
    show wpAny _ _ (checkBoundCall id ⟨[.ref x], []⟩ >>= _) _ _ _
    refine wpAny_bind (hck (wpAny_pure ⟨plainId_quiet hplain _, codeAny_builtin hb ?_⟩))
    rw [Around.under_plainId hplain _]
    refine wpAny_mono hc (fun fin s' h' => ?_) fun _ _ h' => h'
    obtain ⟨v, rfl, hv⟩ := h'; exact hv
end
-- text GE
section
variable {w : World} {n : Nat} {A : Around} {env : Env} {o₀ : OsState} {Fs J : Know} {m : Loc} {news : Led} {s : Shared} {E : Value → Shared → Prop}
/-! a sum with a start over what walks -/
section
variable {a : Addr} {fp wr : List Addr} {G : Array GenState → Array GenState → Prop} {N : Nat} {P : Nat → Value → Prop} {St : Nat → Shared → Prop}
theorem walks_shift {A : Around} (W : WalksS prg w A a fp wr G N P St) : WalksS prg w A a fp wr G (N + 1) (fun i v => match i with | 0 => False | j + 1 => P j v) (fun i s => match i with | 0 => False | j + 1 => St j s) where
  sub := W.sub
  grefl := W.grefl
  gtrans := W.gtrans
  frame := fun i s h' tk st a b => by
    cases i with
    | zero => exact st.elim
    | succ j => exact W.frame j s h' tk st a b
  item := fun i s Q E hi st hQ => by
    cases i with
    | zero => exact st.elim
    | succ j => exact W.item j s Q E (by omega) st fun v s' hP hst hm => hQ v s' hP hst hm
  done := fun s Q E st hQ => W.done s Q E st hQ
  self := fun i s Q E st hQ => by
    cases i with
    | zero => exact st.elim
    | succ j => exact W.self j s Q E st hQ
noncomputable def valS (i0 : Int) (val : Nat → Int) : Nat → Int
  | 0 => i0
  | j + 1 => val j
theorem preSum_shift (i0 : Int) (val : Nat → Int) : ∀ j, preSum (valS i0 val) (j + 1) = i0 + preSum val j
  | 0 => by simp [preSum, valS]
  | j + 1 => by
    rw [preSum, preSum_shift i0 val j, preSum]
    show _ + val j = _
    omega
theorem args_sum2 (a b : Value) : argsOk "sum" ⟨[a, b], []⟩ := by unfold argsOk; kernel_rfl
theorem sum_start {i0 : Int} {t : Tok} {Q : Value → Shared → Prop} (W : WalksS prg w A.in1 a fp wr G N P St) (hst : St 0 s) (hfp : ∀ b ∈ fp, b < s.heap.objs.size) (val : Nat → Int) (hval : ∀ i v, P i v → ∃ t, v = .int (val i) t)
    (h0 : InLong i0) (hfit : ∀ j, j < N → InLong (val j) ∧ InLong (i0 + preSum val (j + 1))) (hQ : ∀ s' t', Moved wr G s s' → Q (.int (i0 + preSum val N) t') s') : wpAny (MM w) A (PySem.call (.builtin "sum") [.ref a, .int i0 t]) Q E s := by
  refine call_function_tree F.kind_sum F.plain_sum F.entry_sum (args_sum2 _ _) ?_
  unfold Builtin.«sum»
  simp only [List.length_cons, List.length_nil]
  rw [if_neg (by decide)]
  refine wpAny_bind (wpAny_of_eq (show Builtin.Builtins.bindParams "sum" ["start"] 0 ⟨[.int i0 t], []⟩ = pure [some (.int i0 t)] from rfl) ?_)
  refine wpAny_bind (W.self 0 _ _ _ hst ?_)
  dsimp only
  rw [if_pos (by
    unfold InLong at h0
    show (decide (-(2 ^ 63) ≤ i0) && decide (i0 < 2 ^ 63)) = true
    simp; omega)]
  refine wpAny_bind (wpAny_rule (wpAny_bind (wpAny_mkInt ?_)))
  refine wpAny_bind (wpAny_pure ?_)
  simp only [List.forIn_cons, List.forIn_nil]
  refine wpAny_bind (wpAny_bind (wpAny_bind (wpAny_isInstance (T := "int") (b := false) (typeIs_int _ _ _) PySem.sub_int_str ?_)))
  simp only [Bool.false_eq_true, if_false]
  refine wpAny_pure (wpAny_bind (wpAny_bind (wpAny_isInstance (T := "int") (b := false) (typeIs_int _ _ _) PySem.sub_int_bytes ?_)))
  simp only [Bool.false_eq_true, if_false]
  refine wpAny_pure (wpAny_bind (wpAny_bind (wpAny_isInstance (T := "int") (b := false) (typeIs_int _ _ _) PySem.sub_int_bytearray ?_)))
  simp only [Bool.false_eq_true, if_false]
  refine wpAny_pure (wpAny_pure ?_)
  refine wpAny_bind (wpAny_newObj_type ?_)
  have hSf : s.heap.objs.size ∉ fp := fun hm => Nat.lt_irrefl _ (hfp _ hm)
  refine wpAny_pure ⟨plainId_quiet F.plain_sum_loop _, codeAny_sum_loopS (walks_shift W) (valS i0 val) (fun i v hP => ?_) (fun j hj => ?_) s.heap.objs.size hSf N 1 _ s.toks 0 (by omega) (by omega)
    (W.frame 0 s _ _ hst (by first | exact Nat.le_refl _ | exact Nat.le_succ _ | omega) fun b _ o e => Heap.get?_push_of_some _ e) ?_ fun s' t' hm => ?_⟩
  · cases i with
    | zero => exact hP.elim
    | succ i => exact hval i v hP
  · cases j with
    | zero => exact ⟨h0, by rw [preSum_shift]; simpa [preSum] using h0⟩
    | succ j => exact ⟨(hfit j (by omega)).1, by rw [preSum_shift]; exact (hfit j (by omega)).2⟩
  · rw [show preSum (valS i0 val) 1 = i0 from by simp [preSum, valS]]
    exact Heap.get?_push_size _ rfl
  · rw [preSum_shift]
    exact hQ s' t' (hm.drop_new (by first | exact Nat.le_refl _ | exact Nat.le_succ _ | omega))
end
/-! the accumulator's items one by one -/
theorem accNext {it l d : Addr} {i : Nat} {vs : List Value} {e : Nat} {x : Value} {Q : Option Value → Shared → Prop} (hit : s.heap.IsListIter it l i) (hl : s.heap.get? l = some (aO vs e d)) (hx : vs[i]? = some x)
    (hQ : ∀ h', h'.IsListIter it l (i + 1) → Heap.SameBut it s.heap h' → Q (some x) { s with heap := h' }) : wpAny (MM w) A (pyNext (.ref it)) Q E s := by
  obtain ⟨o, ho, hc, hd⟩ := id hit
  unfold pyNext
  refine wpAny_bind (wpAny_attempt (wpAny_callSpecial?_slot (name := Str.ofString "__next__") hit.typeIs slot_listiter_next
    (wpAny_call_entry slot_listiter_next hit.typeIs entry_listiter_next ?_ (args_listiter_next _))))
  show wpAny _ _ (field (.ref it) 0 >>= _) _ _ s
  refine wpAny_bind (wpAny_field ho hd (x := .ref l) rfl ?_)
  show wpAny _ _ (if (Value.ref l == Value.none) = true then _ else _) _ _ s
  rw [if_neg (show ¬ ((Value.ref l == Value.none) = true) from Bool.false_ne_true)]
  show wpAny _ _ (field (.ref it) 1 >>= _) _ _ s
  refine wpAny_bind (wpAny_field ho hd (x := .int i 0) rfl ?_)
  show wpAny _ _ (seqItems? (.ref l) >>= _) _ _ s
  refine wpAny_bind (wpAny_seqItems hl rfl ?_)
  simp only [Int.toNat_natCast, show (vs.toArray)[i]? = some x by simpa using hx]
  refine wpAny_bind (wpAny_setField ho hd (by simp) (wpAny_pure ⟨x, rfl, wpAny_pure (hQ _ ?_ (Heap.SameBut.update ..))⟩))
  exact ⟨_, Heap.get?_update_self _ ho (Obj.isFreed_of_fields (Obj.data_mapFields hd _)), (Obj.cls_mapFields ..).trans hc, by
    rw [Obj.data_mapFields hd]; simp [rawInt]⟩
theorem accEnd {it l d : Addr} {i : Nat} {vs : List Value} {e : Nat} {Q : Option Value → Shared → Prop} (hh : A.handled = none) (hit : s.heap.IsListIter it l i) (hl : s.heap.get? l = some (aO vs e d)) (hx : vs[i]? = none)
    (hQ : ∀ h', Heap.ExtBut it s.heap h' → Q none { s with heap := h' }) : wpAny (MM w) A (pyNext (.ref it)) Q E s := by
  obtain ⟨o, ho, hc, hd⟩ := id hit
  unfold pyNext
  refine wpAny_bind (wpAny_attempt (wpAny_callSpecial?_slot (name := Str.ofString "__next__") hit.typeIs slot_listiter_next
    (wpAny_call_entry slot_listiter_next hit.typeIs entry_listiter_next ?_ (args_listiter_next _))))
  show wpAny _ _ (field (.ref it) 0 >>= _) _ _ s
  refine wpAny_bind (wpAny_field ho hd (x := .ref l) rfl ?_)
  show wpAny _ _ (if (Value.ref l == Value.none) = true then _ else _) _ _ s
  rw [if_neg (show ¬ ((Value.ref l == Value.none) = true) from Bool.false_ne_true)]
  show wpAny _ _ (field (.ref it) 1 >>= _) _ _ s
  refine wpAny_bind (wpAny_field ho hd (x := .int i 0) rfl ?_)
  show wpAny _ _ (seqItems? (.ref l) >>= _) _ _ s
  refine wpAny_bind (wpAny_seqItems hl rfl ?_)
  simp only [Int.toNat_natCast, show (vs.toArray)[i]? = none by simpa using hx]
  refine wpAny_bind (wpAny_rule (wpAny_bind (wpAny_setField ho hd (by simp) ?_)))
  show wpAny _ _ (newExc (.type "StopIteration") [] >>= _) _ _ _
  refine wpAny_bind ?_
  simp only [newExc, newTuple]
  refine wpAny_bind (wpAny_newObj_type ?_ (by size_fits))
  refine wpAny_bind (m := firstArgMember _ _) (wpAny_of_eq (a := Value.none) (by first | rfl | (simp only [firstArgMember]; rfl)) ?_)
  refine wpAny_newObj_type ?_ (by size_fits)
  simp only [raiseNew]
  refine wpAny_bind (wpAny_handled ?_)
  rw [show A.in1.handled = none from hh]
  refine wpAny_bind (wpAny_pure (wpAny_throw ?_))
  refine wpAny_bind (wpAny_isInstance (T := "StopIteration") (b := true) ⟨_, Heap.get?_push_size _ rfl, rfl⟩ isSubtype_stop ?_)
  exact wpAny_pure (hQ _ (((Heap.SameBut.update ..).extBut.push _).push _))
theorem walksAcc {A : Around} (hh : A.handled = none) (I ax d : Addr) (hne : ax ≠ I) (vs : List Value) (e : Nat) (Ts : Nat → Addr) (vals : Nat → Array Value)
    (hit : ∀ j, j < vs.length → vs[j]? = some (.ref (Ts j))) (hTI : ∀ j, j < vs.length → Ts j ≠ I) :
    WalksU prg w A I (I :: ax :: (List.range vs.length).map Ts) [I] vs.length (fun j v => j < vs.length ∧ v = vals j)
      (fun j h => h.IsListIter I ax j ∧ h.get? ax = some (aO vs e d) ∧ ∀ k, k < vs.length → h.IsTuple (Ts k) (vals k))
      (fun j T h => (j < vs.length ∧ T = Ts j) ∧ h.IsListIter I ax (j + 1) ∧ h.get? ax = some (aO vs e d) ∧ ∀ k, k < vs.length → h.IsTuple (Ts k) (vals k)) where
  sub := fun b hb => by simp at hb; simp [hb]
  frame := fun _ _ _ st hk => ⟨st.1.at fun o e => hk I (by simp) o e, hk ax (by simp) _ st.2.1,
    fun k hk' => (st.2.2 k hk').at fun o e => hk (Ts k) (List.mem_cons_of_mem _ (List.mem_cons_of_mem _ (List.mem_map.mpr ⟨k, List.mem_range.mpr hk', rfl⟩))) o e⟩
  item := fun i s Q E hi st hQ => by
    refine accNext st.1 st.2.1 (hit i hi) fun h' hit' hs' => ?_
    have tup : ∀ k, k < vs.length → h'.IsTuple (Ts k) (vals k) := fun k hk' => (st.2.2 k hk').extBut hs'.extBut (hTI k hk')
    exact hQ (Ts i) (vals i) h' s.toks ⟨hi, rfl⟩ (tup i hi) ⟨⟨hi, rfl⟩, hit', (hs'.2 _ hne).trans st.2.1, tup⟩ fun b o hb e => hs'.extBut b o (fun h => hb (by simp [h])) e
  go := fun _ _ _ _ _ s Q _ hm hQ => wpAny_letOwnedTupleGo_listiter hm.2.1 (hQ s.heap hm.2 fun _ _ _ e => e)
  apart := fun j T _ hm hmem => by
    rcases List.mem_cons.mp hmem with e | e
    · exact hTI j hm.1.1 (hm.1.2 ▸ e)
    · cases e
  done := fun s Q E st hQ => accEnd hh st.1 st.2.1 (by simp) fun h' he' => hQ h' s.toks fun b o hb e => he' b o (fun h => hb (by simp [h])) e
  self := fun _ _ _ _ st hQ => wpAny_pyIter_listiter st.1 hQ
theorem accIfBound {x d : Addr} {vs : List Value} {e : Nat} {name : Str} {id : String} {refuse : Sem Value} {Q : Option Value → Shared → Prop} (X : (Mine.hd.heap_1 w.params).In s.heap) (hx : s.heap.get? x = some (aO vs e d))
    (hs : findIn (Mine.hd.heap_1 w.params) (.ref 178) name = some (some (.builtin id))) (hb : bindSpecial (.builtin id) (.ref x) = pure (.builtin id, [.ref x])) (hc : wpAny (MM w) A (PySem.call (.builtin id) [.ref x]) (fun v => Q (some v)) E s) :
    wpAny (MM w) A (callSpecialIfBoundUnlessNone? (.ref x) name refuse) Q E s := by
  have ty : Looks (MM w) s.heap (typeOf (.ref x)) (.ref 178) := (Looks.ld (part := some headPart) hx).andThen .now
  simp only [callSpecialIfBoundUnlessNone?, bindSpecialIfBound?]
  refine wpAny_holding (wpAny_bind (wpAny_bind (wpAny_bind (ty.here ((looks_findIn X hs).here ?_)))))
  simp only [hb]
  refine wpAny_bind (wpAny_askSetting (wpAny_ite ?_))
  have fin : wpAny (MM w) A (if (Value.builtin id == Value.none) = true then (refuse >>= fun v => pure (some v)) else (PySem.call (.builtin id) [.ref x] >>= fun v => pure (some v))) Q E s := by
    simp only [builtin_beq_none, Bool.false_eq_true, if_false]
    exact wpAny_bind (wpAny_mono hc (fun v s' h' => wpAny_pure h') fun _ _ h' => h')
  split
  · exact wpAny_bind (wpAny_pure (wpAny_pure fin))
  · exact wpAny_tryCatch (wpAny_bind (wpAny_pure (wpAny_pure fin)))
theorem accIter {x d : Addr} {vs : List Value} {e : Nat} {Q : Value → Shared → Prop} (S : Sit w n A env o₀ Fs J m news s) (hx : s.heap.get? x = some (aO vs e d))
    (hQ : Q (.ref s.heap.objs.size) { s with heap := s.heap.push { cls := .type "list_iterator", data := .fields #[.ref x, .int 0 0] } }) : wpAny (MM w) A (pyIter (.ref x)) Q E s := by
  have X := S.X
  have hs : findIn (Mine.hd.heap_1 w.params) (.ref 178) "__iter__" = some (some (.builtin "list.__iter__")) := by k_is
  have ty : Looks (MM w) s.heap (typeOf (.ref x)) (.ref 178) := (Looks.ld (part := some headPart) hx).andThen .now
  unfold pyIter
  refine wpAny_bind (wpAny_bind (ty.here ((looks_findIn X hs).here ?_)))
  dsimp only
  refine wpAny_bind (accIfBound X hx hs (slot_list_iter.bind _) ?_)
  refine callAcc (n := "__iter__") S hx (by decide +kernel) (.inl (by decide +kernel)) (by decide +kernel) entry_list_iter (args_list_iter _) ?_
  show wpAny _ _ (do ret (← newFields "list_iterator" [.ref x, rawInt 0])) _ _ s
  refine wpAny_bind (wpAny_newObj_type (wpAny_pure ⟨_, rfl, ?_⟩))
  dsimp only
  exact wpAny_bind (wpAny_specialOf ⟨_, Heap.get?_push_size _ rfl, rfl⟩ slot_listiter_next.lookup (wpAny_pure hQ))
end
-- text GF
section
variable {w : World} {n : Nat} {A : Around} {env : Env} {o₀ : OsState} {Fs J : Know} {m : Loc} {news : Led} {s : Shared} {E : Value → Shared → Prop}
noncomputable def TabO (o : Obj) : Prop := ∃ ps, o = tabObj ps ∧ TriplesOk ps.toList
theorem tabO_nil : TabO (tabObj #[]) := ⟨#[], rfl, by first | exact trivial | exact True.intro | constructor | decide⟩
theorem isCode_of {h : Heap} {c P : Addr} {op : Obj} {ps : Array Value} (C : CodeHd h c P) (hP : h.get? P = some op) (hd : op.data = .fields ps) (ht : TriplesOk ps.toList) : h.IsCode c P ps := by
  obtain ⟨o, vs, file, tf, flags, tg, inF, text, tt, e1, e2, e3, e4, e5, e6, e7, e8, e9, e10⟩ := C
  exact ⟨o, vs, file, tf, flags, tg, inF, text, tt, op, e1, e3, e5, e6, e7, e8, e9, hP, hd, ht, e10⟩
theorem gexCode {c P : Addr} {oP : Obj} {pos : Pos} {q : Str} {scope : Scope} {Q : Value → Shared → Prop} (hcd : env.code = .ref c) (C : CodeHd s.heap c P) (hP : s.heap.get? P = some oP) (hT : TabO oP)
    (h : ∀ code h' tk o', Heap.ExtBut P s.heap h' → h'.get? P = some o' → TabO o' → Q code { s with heap := h', toks := tk }) : wpAny (MM w) A (genexprCode env pos q scope) Q E s := by
  obtain ⟨ps, rfl, ht⟩ := hT
  cases hnf : codeAmong pos ps.toList with
  | some cv => exact wpAny_genexprCode_hit hcd (C.code hP ht) hnf (h cv s.heap s.toks _ (Heap.ExtBut.refl _ _) hP ⟨ps, rfl, ht⟩)
  | none =>
    refine wpAny_genexprCodeX hcd (C.code hP ht) (C.tab hP) hnf fun c' h' tk hx _ _ hok _ htab _ => ?_
    exact h _ h' tk _ hx htab.2 ⟨_, rfl, let ⟨_, _, _, _, _, _, _, _, _, op, _, _, _, _, _, _, _, hop, hpd, htr, _⟩ := hok; by
      rw [htab.2] at hop; cases hop; cases hpd; exact htr⟩
noncomputable def PartsIn (J : Know) (vs : List Value) (ps : List (Str × Str)) : Prop :=
  vs.length = ps.length ∧ ∀ (j : Nat) (f p : Str), ps[j]? = some (f, p) → ∃ (a : Addr) (t u : Tok), vs[j]? = some (Value.ref a) ∧ J a (tO [.str f t, .str p u])
theorem PartsIn.mono {J J' : Know} {vs : List Value} {ps : List (Str × Str)} (h : J.le J') (x : PartsIn J vs ps) : PartsIn J' vs ps :=
  ⟨x.1, fun j f p e => let ⟨a, t, u, e1, e2⟩ := x.2 j f p e; ⟨a, t, u, e1, h _ _ e2⟩⟩
theorem PartsIn.snoc {J : Know} {vs : List Value} {ps : List (Str × Str)} {a : Addr} {f p : Str} {t u : Tok} (x : PartsIn J vs ps) (h : J a (tO [.str f t, .str p u])) : PartsIn J (vs ++ [.ref a]) (ps ++ [(f, p)]) := by
  refine ⟨by simp [x.1], fun j f' p' e => ?_⟩
  rcases Nat.lt_trichotomy j ps.length with hj | hj | hj
  · rw [List.getElem?_append_left hj] at e
    obtain ⟨a', t', u', e1, e2⟩ := x.2 j f' p' e
    exact ⟨a', t', u', by rw [List.getElem?_append_left (by rw [x.1]; exact hj)]; exact e1, e2⟩
  · subst hj
    rw [List.getElem?_append_right (Nat.le_refl _)] at e
    simp at e
    obtain ⟨rfl, rfl⟩ := e
    exact ⟨a, t, u, by rw [← x.1]; simp, h⟩
  · rw [List.getElem?_eq_none (by simp; omega)] at e; cases e
theorem PartsIn.nil {J : Know} : PartsIn J [] [] := ⟨rfl, fun j f p e => by simp at e⟩
theorem PartsIn.take {J : Know} {vs : List Value} {ps : List (Str × Str)} (x : PartsIn J vs ps) (k : Nat) : PartsIn J (vs.take k) (ps.take k) := by
  refine ⟨by simp [x.1], fun j f p e => ?_⟩
  rw [List.getElem?_take] at e
  split at e
  · rename_i hj
    obtain ⟨a, t, u, e1, e2⟩ := x.2 j f p e
    exact ⟨a, t, u, by rw [List.getElem?_take, if_pos hj]; exact e1, e2⟩
  · cases e
theorem PartsIn.drop {J : Know} {vs : List Value} {ps : List (Str × Str)} (x : PartsIn J vs ps) (k : Nat) : PartsIn J (vs.drop k) (ps.drop k) := by
  refine ⟨by simp [x.1], fun j f p e => ?_⟩
  rw [List.getElem?_drop] at e
  obtain ⟨a, t, u, e1, e2⟩ := x.2 _ f p e
  exact ⟨a, t, u, by rw [List.getElem?_drop]; exact e1, e2⟩
theorem walksS_mono {A : Around} {a : Addr} {fp wr : List Addr} {G : Array GenState → Array GenState → Prop} {N : Nat} {P P' : Nat → Value → Prop} {St : Nat → Shared → Prop} (W : WalksS prg w A a fp wr G N P St) (h : ∀ i v, P i v → P' i v) : WalksS prg w A a fp wr G N P' St where
  sub := W.sub
  grefl := W.grefl
  gtrans := W.gtrans
  frame := W.frame
  item := fun i s Q E hi st hQ => W.item i s Q E hi st fun v s' hP hst hm => hQ v s' (h _ _ hP) hst hm
  done := W.done
  self := W.self
theorem passing_all (N : Nat) : passing (fun _ => true) N 0 = List.range N := by unfold passing; simp
/-- a generator not yet begun, and what its end leaves -/
noncomputable def GenS (w : World) (A : Around) (T : Shared → Prop) (a : Addr) (N : Nat) (F : Nat → Value → Prop) (s : Shared) : Prop :=
  ∃ fp wr g St, WalksS prg w A.in4 a fp wr (GenOnlyQ g) N F St ∧ St 0 s ∧ a ∈ fp ∧ (∀ b ∈ fp, b < s.heap.objs.size) ∧ (∀ i s', St i s' → s'.TypeIs (.ref a) "generator") ∧
    ∀ s', (∀ b o, b ∉ wr → s.heap.get? b = some o → s'.heap.get? b = some o) → GenOnlyQ g s.gens s'.gens → s'.os = s.os → T s'
theorem GenS.toks {A : Around} {T : Shared → Prop} {a : Addr} {N : Nat} {F : Nat → Value → Prop} {s : Shared} (X : GenS w A T a N F s) {k : Nat} (hk : s.toks ≤ k) : GenS w A T a N F { s with toks := k } := by
  obtain ⟨fp, wr, g, St, W, hst, ha, hfp, hT, hM⟩ := X
  exact ⟨fp, wr, g, St, W, W.frame 0 s s.heap k hst hk (fun _ _ _ e => e), ha, hfp, hT, hM⟩
theorem Sit.genT {elt : Expr} {xa xb : Str} {pa pb pt : Pos} {kt : Nat} {self : Str} {psf : Pos} {scope : Scope} {pos : Pos} {P c x d : Addr} {oP : Obj} {vs : List Value} {e : Nat} {ps : List (Str × Str)} {F : Nat → Value → Prop} {Q : Value → Shared → Prop}
    (S : Sit w n A env o₀ Fs J m ((P, oP) :: news) s) (hP : TabO oP) (hcd : env.code = .ref c) (hC : codeHdIn (Mine.hd.heap_1 w.params) c P = true) (hx : (x, aO vs e d) ∈ news) (hp : PartsIn J vs ps)
    (hks : env.kindOf self = some .local) (hself : m self = some (.ref x)) (hsd : (self == ("__debug__" : Str)) = false)
    (hco : scope.isCoroutine = false) (hclos : closureFor scope env = pure []) (hcell : ∀ y ∈ scope.names, y.2 ≠ .cell) (h0 : scope.names.lookup (".0" : Str) = some NameKind.local)
    (hxa : scope.names.lookup xa = some .local) (hxb : scope.names.lookup xb = some .local) (hab : xa ≠ xb) (hkind : scope.kind = .function)
    (helt : ∀ C code (A' : Around) E' i f p t u (s₂ : Shared) m₂, A'.handled = none → A'.units ≤ A.units + 8 → ps[i]? = some (f, p) → s₂.heap.Ns C m₂ → m₂ xa = some (.str f t) → m₂ xb = some (.str p u) → (Mine.hd.heap_1 w.params).In s₂.heap →
      (∃ p loose mean mg mb, Top p loose mean mg mb s₂.heap) → wpAny (MM w) A' (eval elt (genEnv scope [] C code builtinsNs env)) (fun y s₃ => F i y ∧ Keeps s₂ s₃) E' s₂)
    (hQ : ∀ a oP' s', TabO oP' → Sit w n A env o₀ Fs J m ((P, oP') :: news) s' → GenS w A (Sit w n A env o₀ Fs J m ((P, oP') :: news)) a ps.length (fun j y => j < ps.length ∧ F j y) s' → Q (.ref a) s') :
    wpAny (MM w) A (eval (.GeneratorExp elt [⟨.Tuple [.Name xa pa, .Name xb pb] kt pt, .Name self psf, [], 0⟩] scope pos) env) Q E s := by
  refine wpAny_GeneratorExp_walksQTD (cl := []) S.hh hco hclos hcell h0 hxa hxb hab hkind (by have := S.room; omega) ?_ (fun _ => rfl)
  refine S.ld hks hself ?_ hsd
  have hxs : s.heap.get? x = some (aO vs e d) := S.getN (List.mem_cons_of_mem _ hx)
  refine accIter S hxs ?_
  -- the iterator
  have S1 := S.push (k := s.toks) { cls := .type "list_iterator", data := .fields #[.ref x, .int 0 0] }
  have hfresh : s.heap.get? s.heap.objs.size = none := by
    cases q : s.heap.get? s.heap.objs.size with
    | none => rfl
    | some y => exact absurd (Heap.lt_size q) (Nat.lt_irrefl _)
  have hIget := S1.hd
  generalize hs2 : ({ s with heap := s.heap.push { cls := .type "list_iterator", data := .fields #[.ref x, .int 0 0] }, toks := s.toks } : Shared) = s2 at S1 hIget
  have hs2' : ({ s with heap := s.heap.push { cls := .type "list_iterator", data := .fields #[.ref x, .int 0 0] } } : Shared) = s2 := by rw [← hs2]
  (try rw [hs2'])
  have S1 := S1.drop
  refine ⟨S1.nolimit, ?_⟩
  refine gexCode hcd (codeHd_of_K S1.X hC) S1.hd hP fun code h3 tk3 op3 hext hop3 hTab => ?_
  -- the state behind the table
  have nd := List.nodup_cons.mp S1.nd
  have S3 : Sit w n A env o₀ Fs J m ((P, op3) :: news) { s2 with heap := h3, toks := tk3 } := by
    refine S1.move (s' := { s2 with heap := h3, toks := tk3 }) ?_ (fun a o _ ha e => hext a o (fun q => ha (by rw [q]; exact .head _)) e) (fun p hp => ?_) (fun p hp => ?_) S1.nd rfl S1.bare
    · exact S1.ns.at' fun o e => hext _ o (Ne.symm (S1.nw _ (.head _)).2) e
    · rcases List.mem_cons.mp hp with rfl | hp
      · exact hop3
      · exact hext _ _ (fun q => nd.1 (by show P ∈ _; rw [← q]; exact List.mem_map_of_mem hp)) (S1.nw p (.tail _ hp)).1
    · rcases List.mem_cons.mp hp with rfl | hp
      · exact .inl (.head _)
      · exact .inl (.tail _ (List.mem_map_of_mem hp))
  obtain ⟨pp, loose, mean, mg, mb, T⟩ := S3.T
  obtain ⟨bm, ob, b1, b2, b3, b4, b5, b6⟩ := T.bmain
  refine wpAny_builtinsFor (by rw [S3.hg]; exact T.g) b1 b2 b3 b4 b5 b6 ?_
  -- addresses of the parts
  have hlen := hp.1
  have ex : ∀ j : Nat, ∃ T : Addr × Array Value, j < vs.length → (vs[j]? = some (.ref T.1) ∧ ∃ f p t u, ps[j]? = some (f, p) ∧ T.2 = #[.str f t, .str p u] ∧ J T.1 (tO [.str f t, .str p u])) := fun j => by
    by_cases hj : j < vs.length
    · have hj' : j < ps.length := by omega
      obtain ⟨a, t, u, e1, e2⟩ := hp.2 j ps[j].1 ps[j].2 (by rw [List.getElem?_eq_getElem hj'])
      exact ⟨(a, #[.str ps[j].1 t, .str ps[j].2 u]), fun _ => ⟨e1, _, _, t, u, by rw [List.getElem?_eq_getElem hj'], rfl, e2⟩⟩
    · exact ⟨(0, #[]), fun h => absurd h hj⟩
  obtain ⟨TT, hTT⟩ := Classical.axiomOfChoice ex
  have hI2 : s2.heap.objs.size = s.heap.objs.size + 1 := by rw [← hs2]; exact Heap.size_push ..
  have oldI : ∀ {a : Addr} {o : Obj}, s.heap.get? a = some o → a ≠ s.heap.objs.size := fun e q => by rw [q, hfresh] at e; cases e
  have hTI : ∀ j, j < vs.length → (TT j).1 ≠ s.heap.objs.size := fun j hj => by
    obtain ⟨_, f, p, t, u, _, _, e3⟩ := hTT j hj
    exact oldI (S.get e3)
  have hPI : P ≠ s.heap.objs.size := oldI S.hd
  have hI3 : h3.get? s.heap.objs.size = some { cls := .type "list_iterator", data := .fields #[.ref x, .int 0 0] } := hext _ _ (Ne.symm hPI) hIget
  have hx3 : h3.get? x = some (aO vs e d) := (S3.nw _ (.tail _ hx)).1
  have hJ3 : ∀ a o, J a o → h3.get? a = some o := fun a o h => S3.get h
  have hst3 : h3.IsListIter s.heap.objs.size x 0 ∧ h3.get? x = some (aO vs e d) ∧ ∀ k, k < vs.length → h3.IsTuple (TT k).1 (TT k).2 := by
    refine ⟨⟨_, hI3, rfl, rfl⟩, hx3, fun k hk => ?_⟩
    obtain ⟨_, f, p, t, u, _, e2, e3⟩ := hTT k hk
    exact ⟨_, hJ3 _ _ e3, rfl, 0, by rw [e2]⟩
  have hcs : cStatics ≠ s.heap.objs.size := by
    obtain ⟨_, hn, _⟩ := S.nolimit
    exact Nat.ne_of_lt hn.lt
  refine ⟨s.heap.objs.size, s.heap.objs.size :: x :: (List.range vs.length).map (fun k => (TT k).1), [s.heap.objs.size], vs.length, _, _, _, fun _ => true, F, rfl,
    (fun A' hA => walksAcc hA s.heap.objs.size x d (oldI hxs) vs e (fun k => (TT k).1) (fun k => (TT k).2) (fun j hj => (hTT j hj).1) hTI), (fun i vals hv => ?_), hst3, (fun b hb => ?_), S3.nolimit, by simpa using hcs, (fun href hhref => ?_), fun a h5 tk gs hgb hag hsz5 hk5 W hat => ?_⟩
  · obtain ⟨_, f, p, t, u, _, e2, _⟩ := hTT i hv.1
    exact ⟨_, _, hv.2.trans e2⟩
  · rcases List.mem_cons.mp hb with rfl | hb
    · exact Heap.lt_size hI3
    · rcases List.mem_cons.mp hb with rfl | hb
      · exact Heap.lt_size hx3
      · obtain ⟨k, hk, rfl⟩ := List.mem_map.mp hb
        obtain ⟨_, f, p, t, u, _, _, e3⟩ := hTT k (List.mem_range.mp hk)
        exact Heap.lt_size (hJ3 _ _ e3)
  · have inB : ∀ t : Shared, (∀ b ∈ List.range h3.objs.size, b ∉ [s.heap.objs.size] → ∀ o, href.get? b = some o → t.heap.get? b = some o) → ∀ a o, J a o → t.heap.get? a = some o := fun t hk a o hj =>
      hk a (List.mem_range.mpr (Heap.lt_size (hJ3 a o hj))) (by simpa using oldI (S.get hj)) o (hhref a o (hJ3 a o hj))
    refine ⟨fun A' E' i va vb s₂ m₂ hA hD hU hv hn hma hmb hkp => wpAny_pure ⟨rfl, s₂.heap, s₂.toks, rfl, fun _ _ e => e⟩, fun A' E' i va vb s₂ m₂ hA hD hU hv _ hn hma hmb hkp => ?_⟩
    obtain ⟨_, f, p, t, u, e1, e2, e3⟩ := hTT i hv.1
    have e4 := hv.2.trans e2
    have ea : va = .str f t := by injection e4 with e4; injection e4
    have eb : vb = .str p u := by injection e4 with e4; injection e4 with _ e4; injection e4
    subst ea eb
    obtain ⟨hs, st, k⟩ := S.st
    obtain ⟨p', loose', mean', mg', mb', T'⟩ := st.T
    exact helt _ code A' E' i f p t u s₂ m₂ hA hU e1 hn hma hmb (fun a o e => inB s₂ hkp a o (k a o (st.X a o e))) ⟨p', loose', mean', mg', mb', T'.keeps fun a o e => inB s₂ hkp a o (k a o e)⟩
  · have S5 : Sit w n A env o₀ Fs J m ((P, op3) :: news) { s2 with heap := h5, gens := s2.gens.push gs, toks := tk } :=
      S3.move (s' := { s2 with heap := h5, gens := s2.gens.push gs, toks := tk }) (S3.ns.keeps hk5) (fun a o _ _ e => hk5 a o e) (fun p hp => hk5 _ _ (S3.nw p hp).1) (fun p hp => .inl (List.mem_map_of_mem hp)) S3.nd rfl (S3.bare.push hgb)
    rw [passing_all] at W
    have e6 : (List.range vs.length).length = ps.length := by simp [hlen]
    rw [e6] at W
    have W' := walksS_mono (P' := fun j y => j < ps.length ∧ F j y) W fun i v hv => by
      obtain ⟨j, hj, hF⟩ := hv
      obtain ⟨h1, h2⟩ := List.getElem?_eq_some_iff.mp hj
      simp at h2 h1
      subst h2
      exact ⟨by omega, hF⟩
    refine hQ a op3 _ hTab S5 ⟨_, _, _, _, W', hat, List.mem_cons_self, ?_, (fun i s' st => st.1.typeIs), fun s' hh hg hos => ?_⟩
    · intro b hb
      show b < h5.objs.size
      rw [hsz5]
      rcases List.mem_cons.mp hb with rfl | hb
      · exact Nat.lt_succ_self _
      · rcases List.mem_cons.mp hb with rfl | hb
        · exact Nat.lt_succ_of_lt hag
        · exact Nat.lt_succ_of_lt (Nat.lt_trans (List.mem_range.mp hb) hag)
    · have off : ∀ {a : Addr} {o o' : Obj}, s.heap.get? a = some o → h3.get? a = some o' → a ∉ [h3.objs.size, s.heap.objs.size] := fun e e3 hm => by
        rcases List.mem_cons.mp hm with rfl | hm
        · exact absurd (Heap.lt_size e3) (Nat.lt_irrefl _)
        · exact oldI e (by simpa using hm)
      obtain ⟨oL, _, _, hL, _⟩ := S.ns
      obtain ⟨oL3, _, _, hL3, _⟩ := S3.ns
      refine S5.move' (s' := s') ?_ (fun a o h => hh a o (off (S.lf a o h).1 (S3.lf a o h).1) (S5.lf a o h).1) (fun a o h => hh a o (off (S.get h) (S3.get h)) (S5.get h)) (fun p hp => ?_) (fun p hp => .inl (List.mem_map_of_mem hp)) S5.nd hos (S5.bare.moved hg)
      · exact S5.ns.at' fun o e => hh _ o (off hL hL3) e
      · have h2 := (S3.nw p hp).1
        have h1 : ∃ o, s.heap.get? p.1 = some o := by
          rcases List.mem_cons.mp hp with rfl | hp
          · exact ⟨_, S.hd⟩
          · exact ⟨_, (S.nw p (.tail _ hp)).1⟩
        obtain ⟨o1, h1⟩ := h1
        exact hh _ _ (off h1 h2) (S5.nw p hp).1
end
-- text AL
section
variable {w : World} {n : Nat} {A : Around} {env : Env} {o₀ : OsState} {Fs J : Know} {m : Loc} {news : Led} {s : Shared} {E : Value → Shared → Prop}
abbrev iniK : Str := Str.ofString "_initial_size"
noncomputable def szE (w : World) (tk : Tok) (i0 : Int) (tv : Tok) : List DictEntry := [⟨PyData.keyHash w.params iniK, .str iniK tk, .int i0 tv⟩]
noncomputable def AccAt (w : World) (J : Know) (x dx : Addr) (ps : List (Str × Str)) (i0 : Int) (led : Led) : Prop :=
  ∃ vs e tk tv k o1 o2, led = [(x, aO vs e dx), (dx, dictOf (szE w tk i0 tv) k), (140, o1), (147, o2)] ∧ PartsIn J vs ps ∧ TabO o1 ∧ TabO o2
theorem AccAt.mono {J J' : Know} {x dx : Addr} {ps : List (Str × Str)} {i0 : Int} {led : Led} (h : J.le J') (a : AccAt w J x dx ps i0 led) : AccAt w J' x dx ps i0 led := by
  obtain ⟨vs, e, tk, tv, k, o1, o2, h1, h2, h3, h4⟩ := a
  exact ⟨vs, e, tk, tv, k, o1, o2, h1, h2.mono h, h3, h4⟩
theorem Sit.accM {x dx : Addr} {vs : List Value} {e : Nat} {tk tv : Tok} {i0 : Int} {k : Nat} {name : Str} {f tf : Value} {pl : Sem Bool} {Q : Value × List Value → Shared → Prop} (S : Sit w n A env o₀ Fs J m news s) (hx : (x, aO vs e dx) ∈ news) (hd : (dx, dictOf (szE w tk i0 tv) k) ∈ news)
    (hf : findIn (Mine.hd.heap_1 w.params) (.ref 178) name = some (some f)) (ht : typeIn (Mine.hd.heap_1 w.params) f = some tf) (htf : (tf != .type "function" && tf != .type "method_descriptor" && tf != .type "wrapper_descriptor") = false) (hs : (iniK == name) = false) (h : Q (f, [.ref x]) s) :
    wpAny (MM w) A (getMethod (.ref x) name pl) Q E s := by
  refine methAcc S.X (S.getN hx) (S.getN hd) (by k_is) (by k_is) hf ht htf ?_ h
  unfold getL szE
  have : (Value.str iniK tk).isStr name = false := hs
  simp only [List.find?, this, List.any]
  rfl
theorem push_spec {x dx : Addr} {ps : List (Str × Str)} {i0 : Int} {led : Led} {f p : Str} {t u : Tok} {Q : Value → Shared → Prop} (S : Sit w (n + 1) A env o₀ Fs J m (led ++ news) s) (hA : AccAt w J x dx ps i0 led) (hz : ps.length ≤ 1000)
    (h : ∀ J' led' s', J.le J' → AccAt w J' x dx (ps ++ [(f, p)]) i0 led' → Sit w (n + 1) A env o₀ Fs J' m (led' ++ news) s' → Q .none s') : wpAny (MM w) A (call (.ref 122) [.ref x, .str f t, .str p u]) Q E s := by
  obtain ⟨vs, e, tk, tv, k, o1, o2, rfl, hp, ht1, ht2⟩ := hA
  simp only [List.cons_append, List.nil_append] at S
  ktr_call 122 [(Str.ofString "self", .ref x), (Str.ofString "fws", .str f t), (Str.ofString "string", .str p u)]
  repeat kc_bool
  refine S.accM (by k_mem) (by k_mem) (by k_is) (by k_is) (by decide) (by decide) ?_
  repeat kc_bool
  refine S.newT (by rw [sizeLine_eq]; simp) ?_
  intro a J1 s hle1 ha S
  repeat kc_bool
  refine S.accAppend (by rw [hp.1, sizeLine_eq]; omega) ?_
  intro s S
  dsimp only
  repeat kc_bool
  exact ⟨_, _, _, S, fun S => h _ _ _ hle1 ⟨_, _, _, _, _, _, _, rfl, (hp.mono hle1).snoc ha, ht1, ht2⟩ S⟩
end
-- text AM
section
variable {w : World} {n : Nat} {A : Around} {env : Env} {o₀ : OsState} {Fs J : Know} {m : Loc} {news : Led} {s : Shared} {E : Value → Shared → Prop}
theorem along_len : alongIn (Mine.hd.heap_1 w.params) "__len__" [.type "list", .type "object"] = some (some (.builtin "list.__len__")) := by kernel_rfl
theorem along_pop : alongIn (Mine.hd.heap_1 w.params) "pop" [.type "list", .type "object"] = some (some (.builtin "list.pop")) := by kernel_rfl
theorem along_init : alongIn (Mine.hd.heap_1 w.params) "__init__" [.type "list", .type "object"] = some (some (.builtin "list.__init__")) := by kernel_rfl
theorem bodyLen {x d : Addr} {vs : List Value} {e : Nat} {R : Value → Shared → Prop} (S : Sit w n A env o₀ Fs J m news s) (hx : s.heap.get? x = some (aO vs e d)) {A' : Around}
    (h : ∀ t s', Sit w n A env o₀ Fs J m news s' → R (.int vs.length t) s') : wpAny (MM w) A' (Builtin.«list.__len__» ⟨[.ref x], []⟩) (fun fin s' => ∃ v, fin = .done (.ret v) ∧ R v s') E s := by
  have h := h s.toks _ (S.toks (s.toks + 1))
  obtain ⟨hp, g, dd, tk, os⟩ := s
  wp_walk
  exact ⟨_, rfl, by simpa using h⟩
theorem bodyPop {x d : Addr} {vs : List Value} {e : Nat} {v : Value} {R : Value → Shared → Prop} (S : Sit w n A env o₀ Fs J m ((x, aO (vs ++ [v]) e d) :: news) s) (hz : vs.length ≤ 1000) {A' : Around}
    (h : ∀ s', Sit w n A env o₀ Fs J m ((x, aO vs (e + 1) d) :: news) s' → R v s') : wpAny (MM w) A' (Builtin.«list.pop» ⟨[.ref x], []⟩) (fun fin s' => ∃ v, fin = .done (.ret v) ∧ R v s') E s := by
  have hl := S.hd
  have h : ∀ h', Heap.SameBut x s.heap h' → h'.get? x = some (aO vs (e + 1) d) → R v { s with heap := h' } := fun h' hs hg => h _ (S.turn (k := s.toks) hs hg)
  obtain ⟨hp, g, dd, tk, os⟩ := s
  have hsz : (vs ++ [v]).toArray.size = vs.length + 1 := by simp
  have hy : (vs ++ [v]).toArray[(vs ++ [v]).toArray.size - 1]? = some v := by rw [hsz]; simp
  have hne : ¬ (vs ++ [v]).toArray.isEmpty = true := by simp
  have hk : seqIndex? (-1) (vs ++ [v]).toArray.size = some ((vs ++ [v]).toArray.size - 1) := by
    rw [seqIndex_neg (by omega) (by omega)]; congr 1; omega
  wp_walk using wpAny_loadPart' hl
  simp only [hk, hy, Option.bind_some, Option.map_some]
  have hs1 : (vs ++ [v]).toArray.size ≤ sizeLine := by rw [hsz, sizeLine_eq]; omega
  have hz' : ((vs ++ [v]).toArray.eraseIdxIfInBounds ((vs ++ [v]).toArray.size - 1)).size ≤ sizeLine + 1 := by rw [sizeLine_eq] at hs1 ⊢; simp [List.length_eraseIdx]; omega
  wp_walk using (wpAny_updateSeq hl rfl (hz := hs1) (_hz' := hz')), wpAny_loadPart' hl
  refine ⟨_, rfl, h _ (Heap.SameBut.update ..) ?_⟩
  have e1 : (vs ++ [v]).eraseIdx vs.length = vs := by rw [List.eraseIdx_append_of_length_le (Nat.le_refl _)]; simp
  rw [Heap.get?_update_self _ hl (by simp [Obj.mapSeq]; rfl)]
  simp [Obj.mapSeq, e1]
theorem part_count_spec {x dx : Addr} {ps : List (Str × Str)} {i0 : Int} {led : Led} {Q : Value → Shared → Prop} (S : Sit w (n + 1) A env o₀ Fs J m (led ++ news) s) (hA : AccAt w J x dx ps i0 led)
    (h : ∀ t s', Sit w (n + 1) A env o₀ Fs J m (led ++ news) s' → Q (.int ps.length t) s') : wpAny (MM w) A (call (.ref 175) [.ref x]) Q E s := by
  obtain ⟨vs, e, tk, tv, k, o1, o2, rfl, hp, ht1, ht2⟩ := hA
  simp only [List.cons_append, List.nil_append] at S
  refine wpAny_call ?_
  refine' Sit.defcodeS (f := 175) (binds := [(Str.ofString "self", .ref x)]) S ?ho ?hd ?hb ?hc ?hbi ?hce ?hlo ?hgl ?hbl ?hco ?hge ?hk ?_
  case ho => k_is
  case hd => rfl
  case hb => rfl
  case hc => k_is
  case hbi => exact BindsTo.of_eq rfl
  case hce => decide
  case hlo => exact locs rfl
  case hgl => rfl
  case hbl => rfl
  case hco => rfl
  case hge => rfl
  case hk => rfl
  intro env s E Fs' hsc hce hcd hfu S
  dsimp only at hsc hce hcd
  refine ks_wpAt_execs_cons ?_
  refine ks_wpAt_Return_some ?_
  refine ks_wpAt_MethodCall ?_
  refine' S.superB ?ho ?hd ?hp ?har hcd ?hc ?hcd2 ?hvs ?hfi hfu hce (kind_of hsc rfl) (kind_of hsc rfl) (kind_of hsc rfl) (by decide) rfl S.hd ?_
  case ho => k_is
  case hd => rfl
  case hp => rfl
  case har => rfl
  case hc => k_is
  case hcd2 => rfl
  case hvs => rfl
  case hfi => first | rfl | decide +kernel
  intro so s S
  refine S.superM bLen S.hd (S.nw _ (.tail _ (.head _))).1 along_len (by decide) ?_
  intro q s S
  refine callBnd0 (.inr rfl) S.hd ?_
  have hx := (S.nw _ (.tail _ (.tail _ (.head _)))).1
  refine codeBnd0 (.inr rfl) S.hd (by decide +kernel) PySem.F.entry_list_len (fun hq => wpAny_of_eq (by kernel_rfl) hq) ?_
  refine bodyLen S hx fun t s S => ?_
  refine ⟨_, _, _, S, fun S => ?_⟩
  have := h t _ S.drop.drop
  rw [← hp.1] at this
  exact this
end
-- text AN
section
variable {w : World} {n : Nat} {A : Around} {env : Env} {o₀ : OsState} {Fs J : Know} {m : Loc} {news : Led} {s : Shared} {E : Value → Shared → Prop}
theorem sig_pop : Manifest.signature? "list.pop" = some ⟨.positional, "list.pop", "pop", .self, [⟨"index", .posOnly, false⟩]⟩ := by kernel_rfl
theorem kind_pop : builtinKind "list.pop" = some .method := by kernel_rfl
theorem qual_acc : ∃ cd, clsIn (Mine.hd.heap_1 w.params) 178 = some cd ∧ cd.qualname = Str.ofString "_Accumulator" := by
  refine' ⟨_, cls_of ?ho ?hd, ?m⟩
  case ho => k_is
  case hd => rfl
  case m => rfl
theorem bndPop {x d : Addr} {vs : List Value} {e : Nat} (X : (Mine.hd.heap_1 w.params).In s.heap) (hx : s.heap.get? x = some (aO vs e d)) {A' : Around} {Q' : Unit → Shared → Prop} {E' : Value → Shared → Prop} (hq : Q' () s) :
    wpAny (MM w) A' (checkBoundCall "list.pop" ⟨[.ref x], []⟩) Q' E' s := by
  obtain ⟨cd, hC, hmro⟩ := qual_acc (w := w)
  have ty : Looks (MM w) s.heap (typeOf (.ref x)) (.ref 178) := (Looks.ld (part := some headPart) hx).andThen .now
  have hm := looks_mroIn (M := MM w) X (C := 178) (base := .type "module") (r := false) (by k_is)
  have hty : Looks (MM w) s.heap (typeOf (.ref 178)) (.type "type") := looks_typeIn X (by k_is)
  have hcd := looks_clsIn (M := MM w) X hC
  have hvar : Manifest.varargsMethods.contains "list.pop" = false := by decide +kernel
  unfold checkBoundCall
  rw [sig_pop, kind_pop]
  dsimp only
  rw [if_neg (by decide)]
  unfold isInstance
  refine wpAny_bind (wpAny_bind (ty.here (hm.here ?_)))
  rw [hvar, if_neg (by decide)]
  have hh : ∀ {Q2 : Bool → Shared → Prop}, Q2 false s → wpAny (MM w) A' (isType (.ref x)) Q2 E' s := fun hq2 => by
    obtain ⟨h1, g, dd, t, os⟩ := s
    exact ks_wpAny_isType_inst hx (fun c e => by cases e) hq2
  refine wpAny_bind (hh ?_)
  rw [if_neg (by decide)]
  refine wpAny_bind (ty.here ?_)
  dsimp only
  refine wpAny_bind (hcd.here (wpAny_bind (hty.here ?_)))
  rw [if_pos (by decide), hmro]
  exact wpAny_of_eq (by kernel_rfl) hq
theorem pop_spec {x dx : Addr} {ps : List (Str × Str)} {i0 : Int} {led : Led} {f p : Str} {Q : Value → Shared → Prop} (S : Sit w (n + 2) A env o₀ Fs J m (led ++ news) s) (hA : AccAt w J x dx (ps ++ [(f, p)]) i0 led) (hz : ps.length ≤ 1000)
    (h : ∀ a t u led' s', J a (tO [.str f t, .str p u]) → AccAt w J x dx ps i0 led' → Sit w (n + 2) A env o₀ Fs J m (led' ++ news) s' → Q (.ref a) s') : wpAny (MM w) A (call (.ref 138) [.ref x]) Q E s := by
  have hA0 := hA
  obtain ⟨vs0, e, tk, tv, k, o1, o2, rfl, hp, ht1, ht2⟩ := hA
  obtain ⟨vs, a, t, u, rfl, ha, hpv⟩ : ∃ vs a t u, vs0 = vs ++ [.ref a] ∧ J a (tO [.str f t, .str p u]) ∧ PartsIn J vs ps := by
    obtain ⟨a, t, u, e1, e2⟩ := hp.2 ps.length f p (by simp)
    have hl := hp.1
    simp at hl
    refine ⟨vs0.take ps.length, a, t, u, ?_, e2, ?_⟩
    · apply List.ext_getElem?
      intro j
      rcases Nat.lt_trichotomy j ps.length with hj | hj | hj
      · rw [List.getElem?_append_left (by simp; omega), List.getElem?_take, if_pos hj]
      · subst hj
        rw [e1, List.getElem?_append_right (by simp; omega)]
        simp [hl]
      · rw [List.getElem?_eq_none (by omega), List.getElem?_eq_none (by simp; omega)]
    · have := hp.take ps.length
      simpa using this
  simp only [List.cons_append, List.nil_append] at S
  refine wpAny_call ?_
  refine' Sit.defcodeS (f := 138) (binds := [(Str.ofString "self", .ref x)]) S ?ho ?hd ?hb ?hc ?hbi ?hce ?hlo ?hgl ?hbl ?hco ?hge ?hk ?_
  case ho => k_is
  case hd => rfl
  case hb => rfl
  case hc => k_is
  case hbi => exact BindsTo.of_eq rfl
  case hce => decide
  case hlo => exact locs rfl
  case hgl => rfl
  case hbl => rfl
  case hco => rfl
  case hge => rfl
  case hk => rfl
  intro env s E Fs' hsc hce hcd hfu S
  dsimp only at hsc hce hcd
  refine ks_wpAt_execs_cons ?_
  refine ks_wpAt_If ?_
  refine wpAt_of_wpAny ?_
  repeat kc_bool
  refine S.accM (by k_mem) (by k_mem) (by k_is) (by k_is) (by decide) (by decide) ?_
  dsimp only
  refine callWith_K0 S.X (by k_is) ?_
  refine part_count_spec (led := [(x, aO (vs ++ [.ref a]) e dx), (dx, dictOf (szE w tk i0 tv) k), (140, o1), (147, o2)]) S hA0 ?_
  intro t1 s S
  simp only [List.cons_append, List.nil_append] at S
  repeat kc_bool
  rw [if_neg (by simp; omega)]
  refine wpAt_of_wpAny (wpAny_execs_nil ?_)
  dsimp only
  refine ks_wpAt_execs_cons ?_
  refine ks_wpAt_Return_some ?_
  refine ks_wpAt_MethodCall ?_
  refine' S.superB ?ho ?hd ?hp ?har hcd ?hc ?hcd2 ?hvs ?hfi hfu hce (kind_of hsc rfl) (kind_of hsc rfl) (kind_of hsc rfl) (by decide) rfl S.hd ?_
  case ho => k_is
  case hd => rfl
  case hp => rfl
  case har => rfl
  case hc => k_is
  case hcd2 => rfl
  case hvs => rfl
  case hfi => first | rfl | decide +kernel
  intro so s S
  refine S.superM bPop S.hd (S.nw _ (.tail _ (.head _))).1 along_pop (by decide) ?_
  intro q s S
  refine callBnd0 (.inl rfl) S.hd ?_
  have hx := (S.nw _ (.tail _ (.tail _ (.head _)))).1
  refine codeBnd0 (.inl rfl) S.hd (by decide +kernel) PySem.F.entry_list_pop (fun hq => bndPop S.X hx hq) ?_
  refine bodyPop S.drop.drop (by have := hpv.1; omega) fun s S => ?_
  exact ⟨_, _, _, S, fun S => h a t u _ _ ha ⟨_, _, _, _, _, _, _, rfl, hpv, ht1, ht2⟩ S⟩
end
-- text AO
section
variable {w : World} {n : Nat} {A : Around} {env : Env} {o₀ : OsState} {Fs J : Know} {m : Loc} {news : Led} {s : Shared} {E : Value → Shared → Prop}
theorem code144 : codeHdIn (Mine.hd.heap_1 w.params) 144 140 = true := by kernel_rfl
theorem code151 : codeHdIn (Mine.hd.heap_1 w.params) 151 147 = true := by kernel_rfl
theorem code261 : codeHdIn (Mine.hd.heap_1 w.params) 261 259 = true := by kernel_rfl
theorem pop0_spec {x dx : Addr} {i0 : Int} {led : Led} {Q : Value → Shared → Prop} (S : Sit w (n + 2) A env o₀ Fs J m (led ++ news) s) (hA : AccAt w J x dx [] i0 led)
    (h : ∀ a t u J' s', J.le J' → J' a (tO [.str (Str.ofString "") t, .str (Str.ofString "") u]) → Sit w (n + 2) A env o₀ Fs J' m (led ++ news) s' → Q (.ref a) s') : wpAny (MM w) A (call (.ref 138) [.ref x]) Q E s := by
  have hA0 := hA
  obtain ⟨vs, e, tk, tv, k, o1, o2, rfl, hp, ht1, ht2⟩ := hA
  simp only [List.cons_append, List.nil_append] at S
  ktr_call 138 [(Str.ofString "self", .ref x)]
  repeat kc_bool
  refine S.accM (by k_mem) (by k_mem) (by k_is) (by k_is) (by decide) (by decide) ?_
  dsimp only
  refine callWith_K0 S.X (by k_is) ?_
  refine part_count_spec (led := [(x, aO vs e dx), (dx, dictOf (szE w tk i0 tv) k), (140, o1), (147, o2)]) S hA0 ?_
  intro t1 s S
  simp only [List.cons_append, List.nil_append] at S
  repeat kc_bool
  rw [if_pos (by decide)]
  repeat kc_bool
  refine S.newT (by rw [sizeLine_eq]; simp) ?_
  intro a J1 s hle1 ha S
  dsimp only
  exact ⟨_, _, _, S, fun S => h _ _ _ _ _ hle1 ha S⟩
noncomputable def lenOf (ps : List (Str × Str)) : Int := (ps.map fun q => ((q.1.length : Int) + (q.2.length : Int))).sum
noncomputable def txtP (ps : List (Str × Str)) : Str := Txt.join (Str.ofString "") (ps.map fun q => Txt.join (Str.ofString "") [q.1, q.2])
theorem lenOf_snoc (ps : List (Str × Str)) (q : Str × Str) : lenOf (ps ++ [q]) = lenOf ps + (q.1.length + q.2.length) := by simp [lenOf]
theorem lenOf_nonneg (ps : List (Str × Str)) : 0 ≤ lenOf ps := by
  induction ps with
  | nil => simp [lenOf]
  | cons a l ih => simp only [lenOf, List.map_cons, List.sum_cons] at *; omega
theorem preSum_len (ps : List (Str × Str)) : ∀ j, j ≤ ps.length → preSum (fun j => ((ps.getD j default).1.length : Int) + ((ps.getD j default).2.length : Int)) j = lenOf (ps.take j)
  | 0, _ => by simp [preSum, lenOf]
  | j + 1, h => by
    rw [preSum, preSum_len ps j (by omega)]
    have e : ps.take (j + 1) = ps.take j ++ [ps.getD j default] := by
      rw [List.take_succ]
      congr 1
      rw [List.getElem?_eq_getElem (by omega)]
      simp [List.getD_eq_getElem?_getD, List.getElem?_eq_getElem (show j < ps.length by omega)]
    rw [e, lenOf_snoc]
theorem lenOf_take_le (ps : List (Str × Str)) (j : Nat) : lenOf (ps.take j) ≤ lenOf ps := by
  have e : ps = ps.take j ++ ps.drop j := (List.take_append_drop j ps).symm
  have h2 := lenOf_nonneg (ps.drop j)
  have e3 : lenOf ps = lenOf (ps.take j) + lenOf (ps.drop j) := by
    conv => lhs; rw [e]
    simp only [lenOf, List.map_append, List.sum_append]
  omega
-- an attribute of the accumulator, with the state written
theorem Sit.accIni {x dx : Addr} {vs : List Value} {e : Nat} {tk tv : Tok} {i0 : Int} {k : Nat} {expr : Bool} {Q : Value → Shared → Prop} (S : Sit w n A env o₀ Fs J m news s) (hx : (x, aO vs e dx) ∈ news) (hd : (dx, dictOf (szE w tk i0 tv) k) ∈ news)
    (h : Q (.int i0 tv) { s with toks := s.toks + 1 }) : wpAny (MM w) A (getAttr (.ref x) iniK expr) Q E s := by
  have hx := S.getN hx
  have hd := S.getN hd
  have I : InstAt s.heap x (aO vs e dx) 178 (some (dictOf (szE w tk i0 tv) k)) := ⟨hx, rfl, rfl, hd⟩
  have X := S.X
  have hh : hasDictIn (Mine.hd.heap_1 w.params) 178 = true := by k_is
  have hga : findIn (Mine.hd.heap_1 w.params) (.ref 178) "__getattribute__" = some (some (.builtin "list.__getattribute__")) := by k_is
  have hk : findIn (Mine.hd.heap_1 w.params) (.ref 178) "__getattr__" = some none := by k_is
  have L0 := I.type (M := MM w)
  have L1 := looks_findIn (M := MM w) X hga
  have L2 := looks_findIn (M := MM w) X hk
  have L3 := looks_find (M := MM w) X I (findObj_own (name := iniK) (v := .int i0 tv) hh (by k_is) (by k_is) rfl)
  unfold getAttr getAttrBy
  have S1 := S.toks (s.toks + 1)
  refine wpAny_bind (wpAny_mkText (wpAny_holding (wpAny_bind (L0.here (s := { s with toks := s.toks + 1 }) (wpAny_bind (L1.here (s := { s with toks := s.toks + 1 }) ?_))))))
  dsimp only
  rw [if_neg (by decide)]
  unfold getAttrByItsOwn hookBefore
  rw [if_pos (by rfl)]
  refine wpAny_bind (L2.here (s := { s with toks := s.toks + 1 }) ?_)
  refine wpAny_bind (wpAny_attempt (wpAny_holding ?_))
  have e1 : callGetattribute (.ref x) (.str iniK s.toks) (.builtin "list.__getattribute__") expr = boundAndCalled (.builtin "list.__getattribute__") (.ref x) (.str iniK s.toks) := by
    unfold callGetattribute
    rw [if_neg (by cases expr <;> decide)]
  rw [e1]
  unfold boundAndCalled
  rw [PySem.F.slot_list_getattribute.bind]
  refine wpAny_bind (wpAny_pure ?_)
  refine callAcc (n := "__getattribute__") S1 hx (by decide +kernel) (.inl (by decide +kernel)) (by decide +kernel) entry_list_ga (PySem.F.args_list_getattribute_2 _ _) ?_
  refine wpAny_bind (wpAny_pure (wpAny_bind (wpAny_pure (wpAny_bind (L0.here (s := { s with toks := s.toks + 1 }) (wpAny_bind (L3.here (s := { s with toks := s.toks + 1 }) ?_)))))))
  refine wpAny_pure ⟨_, rfl, ?_⟩
  show wpAny _ _ (handedOut (.int i0 tv)) _ _ _
  rw [handedOut_of rfl]
  exact wpAny_pure h
theorem len_spec {x dx : Addr} {ps : List (Str × Str)} {i0 : Int} {led : Led} {Q : Value → Shared → Prop} (S : Sit w (n + 1) A env o₀ Fs J m (led ++ news) s) (hA : AccAt w J x dx ps i0 led) (hi : 0 ≤ i0 ∧ i0 ≤ 1000) (hz : lenOf ps ≤ 100000)
    (h : ∀ t led' s', AccAt w J x dx ps i0 led' → Sit w (n + 1) A env o₀ Fs J m (led' ++ news) s' → Q (.int (i0 + lenOf ps) t) s') : wpAny (MM w) A (call (.ref 145) [.ref x]) Q E s := by
  obtain ⟨vs, e, tk, tv, k, o1, o2, rfl, hp, ht1, ht2⟩ := hA
  simp only [List.cons_append, List.nil_append] at S
  have hbnd : ∀ f p, (f, p) ∈ ps → (f.length : Int) + (p.length : Int) ≤ 100000 := fun f p hm => by
    obtain ⟨l1, l2, rfl⟩ := List.append_of_mem hm
    have h1 := lenOf_nonneg l1
    have h2 := lenOf_nonneg l2
    simp only [lenOf, List.map_append, List.map_cons, List.sum_append, List.sum_cons] at hz h1 h2
    omega
  ktr_call 145 [(Str.ofString "self", .ref x)]
  have S := S.perm (news' := (140, o1) :: (x, aO vs e dx) :: (dx, dictOf (szE w tk i0 tv) k) :: (147, o2) :: news) (List.perm_middle (l₁ := [_, _])).symm
  repeat kc_bool
  refine S.genT (x := x) (d := dx) (vs := vs) (e := e) (ps := ps) (F := fun j y => ∃ t, y = .int (((ps.getD j default).1.length : Int) + ((ps.getD j default).2.length : Int)) t) ht1 hcd code144 (by k_mem) hp (kind_of hsc rfl) rfl (by decide) rfl rfl (by decide) rfl rfl rfl (by decide) rfl ?_ ?_
  · intro C code A' E' i f p t u s2 m2 hA hU hps hn hma hmb X hT
    obtain ⟨pp, loose, mean, mg, mb, T⟩ := hT
    have hl : (ps.getD i default) = (f, p) := by rw [List.getD_eq_getElem?_getD, hps]; rfl
    have hb := hbnd f p (List.mem_of_getElem? hps)
    have hlen : ∀ (s3 : Shared) (Q : Value → Shared → Prop) (px : Pos), s3.heap = s2.heap → Q (.builtin "len") s3 → wpAny (MM w) A' (eval (.Name (Str.ofString "len") px) (genEnv { kind := ScopeKind.function, names := [(Str.ofString ".0", NameKind.local), (Str.ofString "fws", NameKind.local), (Str.ofString "part", NameKind.local), (Str.ofString "len", NameKind.globalImplicit)], isGenerator := true, isCoroutine := false } [] C code builtinsNs env)) Q E' s3 := fun s3 Q px hs hq => by
      refine Name_function_global rfl rfl (loadGlobal_builtin (mg := mg) (mb := mb) ?_ ?_ ?_ ?_ hq) (by decide)
      · rw [hs]; show s2.heap.Ns env.globals mg; rw [S.hg]; exact T.g
      · exact mg_none_of X T.g (by k_is)
      · rw [hs]; exact T.b
      · exact (T.builtins _ (by decide)).trans (by boot_fast)
    refine wpAny_BinOp (callN (hlen _ _ _ rfl (cwB (argsC (wpAny_Name (wpAny_loadName_local rfl rfl hn hma (args_nil (P.len_str (by omega) ?_))) (by decide)) rfl) rfl)))
    refine callN (hlen _ _ _ rfl (cwB (argsC (wpAny_Name (wpAny_loadName_local rfl rfl hn hmb (args_nil (P.len_str (by omega) ?_))) (by decide)) rfl) rfl))
    refine add_int ?_
    rw [hl]
    exact ⟨⟨_, rfl⟩, _, _, rfl, fun _ _ e => e⟩
  · intro a o1' s hT1 S G
    repeat kc_bool
    refine S.accIni (by k_mem) (by k_mem) ?_
    have S := S.toks (s.toks + 1)
    have G := G.toks (k := s.toks + 1) (Nat.le_succ _)
    generalize ({ s with toks := s.toks + 1 } : Shared) = s at S G ⊢
    repeat kc_bool
    obtain ⟨fp, wr, g, St, W, hst, ha, hfp, hty, hM⟩ := G
    refine sum_start W.in4_1 hst hfp (fun j => ((ps.getD j default).1.length : Int) + ((ps.getD j default).2.length : Int)) (fun i v hv => hv.2) (by unfold InLong; omega) (fun j hj => ?_) (fun s' t' hm => ?_)
    · have h1 := preSum_len ps (j + 1) (by omega)
      have h2 := lenOf_take_le ps (j + 1)
      have h3 := lenOf_nonneg (ps.take (j + 1))
      have hq := hbnd (ps.getD j default).1 (ps.getD j default).2 (by rw [List.getD_eq_getElem?_getD, List.getElem?_eq_getElem hj]; exact List.getElem_mem hj)
      rw [h1]
      unfold InLong
      constructor <;> omega
    · have S := hM s' hm.heap hm.gens hm.os
      have hq := preSum_len ps ps.length (Nat.le_refl _)
      rw [List.take_length] at hq
      rw [hq]
      dsimp only
      exact ⟨_, _, _, S, fun S => h _ _ _ ⟨_, _, _, _, _, _, _, rfl, hp, hT1, ht2⟩ (S.perm (news' := (x, aO vs e dx) :: (dx, dictOf (szE w tk i0 tv) k) :: (140, o1') :: (147, o2) :: news) (List.perm_middle (l₁ := [_, _])))⟩
end
-- text AP
section
variable {w : World} {n : Nat} {A : Around} {env : Env} {o₀ : OsState} {Fs J : Know} {m : Loc} {news : Led} {s : Shared} {E : Value → Shared → Prop}
theorem strs2 {f p : Str} {t u : Tok} : StrsAre [.str f t, .str p u] [f, p] := by
  have h := strs_snoc (vs := [.str f t]) (ys := [f]) (y := p) (t := u) (strs_snoc (vs := []) (ys := []) (y := f) (t := t) .nil)
  exact h
theorem txtP_len (ps : List (Str × Str)) : ((ps.map fun q => Txt.join (Str.ofString "") [q.1, q.2]).map (·.length)).sum ≤ (lenOf ps).toNat := by
  induction ps with
  | nil => simp [lenOf]
  | cons q l ih =>
    have h1 := lenOf_nonneg l
    have h2 := join_len (Str.ofString "") [q.1, q.2]
    have e0 : (Str.ofString "").length = 0 := rfl
    simp only [List.map_cons, List.sum_cons, List.map_nil, List.sum_nil, e0, Nat.mul_zero, Nat.add_zero] at h2 ⊢
    have e : lenOf (q :: l) = ((q.1.length : Int) + q.2.length) + lenOf l := by simp [lenOf]
    rw [e]
    omega
theorem str_spec {x dx : Addr} {ps : List (Str × Str)} {i0 : Int} {led : Led} {Q : Value → Shared → Prop} (S : Sit w (n + 1) A env o₀ Fs J m (led ++ news) s) (hA : AccAt w J x dx ps i0 led) (hl : ps.length ≤ 1000) (hz : lenOf ps ≤ 100000)
    (h : ∀ t led' s', AccAt w J x dx ps i0 led' → Sit w (n + 1) A env o₀ Fs J m (led' ++ news) s' → Q (.str (txtP ps) t) s') : wpAny (MM w) A (call (.ref 152) [.ref x]) Q E s := by
  obtain ⟨vs, e, tk, tv, k, o1, o2, rfl, hp, ht1, ht2⟩ := hA
  simp only [List.cons_append, List.nil_append] at S
  have hbnd : ∀ f p, (f, p) ∈ ps → (f.length : Int) + (p.length : Int) ≤ 100000 := fun f p hm => by
    obtain ⟨l1, l2, rfl⟩ := List.append_of_mem hm
    have h1 := lenOf_nonneg l1
    have h2 := lenOf_nonneg l2
    simp only [lenOf, List.map_append, List.map_cons, List.sum_append, List.sum_cons] at hz h1 h2
    omega
  ktr_call 152 [(Str.ofString "self", .ref x)]
  have S := S.perm (news' := (147, o2) :: (x, aO vs e dx) :: (dx, dictOf (szE w tk i0 tv) k) :: (140, o1) :: news) (List.perm_middle (l₁ := [_, _, _])).symm
  repeat kc_bool
  with_reducible refine mStr PySem.F.slot_str_join PySem.F.type_str_join ?_
  repeat kc_bool
  refine S.genT (x := x) (d := dx) (vs := vs) (e := e) (ps := ps) (F := fun j y => ∃ t, y = .str (Txt.join (Str.ofString "") [(ps.getD j default).1, (ps.getD j default).2]) t) ht2 hcd code151 (by k_mem) hp (kind_of hsc rfl) rfl (by decide) rfl rfl (by decide) rfl rfl rfl (by decide) rfl ?_ ?_
  · intro C code A' E' i f p t u s2 m2 hA hU hps hn hma hmb X hT
    obtain ⟨pp, loose, mean, mg, mb, T⟩ := hT
    have hl : (ps.getD i default) = (f, p) := by rw [List.getD_eq_getElem?_getD, hps]; rfl
    have hb := hbnd f p (List.mem_of_getElem? hps)
    refine methC (Name_function_global rfl rfl (loadGlobal_global (mg := mg) (by show s2.heap.Ns env.globals mg; rw [S.hg]; exact T.g) (mg_of X T.g (by k_is)) (mStr PySem.F.slot_str_join PySem.F.type_str_join ?_)) (by decide)) (by rfl) (by rfl) (by rfl) (by rfl)
    refine cwM (argsC (Tuple_ (argsC (wpAny_Name (wpAny_loadName_local rfl rfl hn hma (argsC (wpAny_Name (wpAny_loadName_local rfl rfl hn hmb (args_nil (wpAny_newObj_type (args_nil ?_) ?_))) (by decide)) rfl)) (by decide)) rfl)) rfl) rfl
    · show wpAny _ _ (PySem.call (.builtin "str.join") [.str (Str.ofString "") _, .ref _]) _ _ _
      refine join_tuple (items := #[.str f t, .str p u]) (ys := [f, p]) ⟨_, Heap.get?_push_size _ rfl, rfl, _, rfl⟩ (show StrsAre [.str f t, .str p u] [f, p] from strs2) ?_ ?_
      · have e0 : (Str.ofString "").length = 0 := rfl
        simp only [List.map_cons, List.map_nil, List.sum_cons, List.sum_nil, e0]
        omega
      · intro t' k'
        rw [hl]
        exact ⟨⟨_, rfl⟩, _, _, rfl, fun _ _ e => Heap.get?_push_of_some _ e⟩
    · size_fits
  · intro a o1' s hT1 S G
    repeat kc_bool
    obtain ⟨fp, wr, g, St, W, hst, ha, hfp, hty, hM⟩ := G
    show wpAny _ _ (PySem.call (.builtin "str.join") [.str (Str.ofString "") _, .ref a]) _ _ _
    refine SC.joinGen W.in4_2 hty hst hfp ha (fun j v hv => let ⟨u, e⟩ := hv.2; ⟨_, u, e⟩) (fun s' lt hm hacc => ?_) (by rw [sizeLine_eq]; omega)
    have hl2 : lt.map (·.1) = ps.map fun q => Txt.join (Str.ofString "") [q.1, q.2] := by
      apply List.ext_getElem?
      intro j
      have hsz : lt.length = ps.length := by simpa [strValues] using hacc.1
      by_cases hj : j < ps.length
      · have hj' : j < lt.length := hsz ▸ hj
        obtain ⟨_, u, hv⟩ := hacc.2 j (.str lt[j].1 lt[j].2) (by simp [strValues, List.getElem?_eq_getElem hj'])
        injection hv with h1 _
        simp [List.getElem?_eq_getElem hj', List.getElem?_eq_getElem hj, h1]
      · rw [List.getElem?_eq_none (by simpa [hsz] using Nat.le_of_not_lt hj), List.getElem?_eq_none (by simpa using Nat.le_of_not_lt hj)]
    rw [hl2]
    have S := hM s' hm.heap hm.gens hm.os
    refine ⟨joinOk_of ?_, fun t' k' => ?_⟩
    · have h1 := txtP_len ps
      have e0 : (Str.ofString "").length = 0 := rfl
      have h2 := lenOf_nonneg ps
      rw [e0]
      omega
    · have S := S.toks k'
      dsimp only
      exact ⟨_, _, _, S, fun S => h _ _ _ ⟨_, _, _, _, _, _, _, rfl, hp, ht1, hT1⟩ (S.perm (news' := (x, aO vs e dx) :: (dx, dictOf (szE w tk i0 tv) k) :: (140, o1) :: (147, o1') :: news) (List.perm_middle (l₁ := [_, _, _])))⟩
end
-- text AQ
section
variable {w : World} {n : Nat} {A : Around} {env : Env} {o₀ : OsState} {Fs J : Know} {m : Loc} {news : Led} {s : Shared} {E : Value → Shared → Prop}
theorem accTy {x d : Addr} {vs : List Value} {e : Nat} (hx : s.heap.get? x = some (aO vs e d)) : Looks (MM w) s.heap (typeOf (.ref x)) (.ref 178) := (Looks.ld (part := some headPart) hx).andThen .now
theorem accSpecial {x d : Addr} {vs : List Value} {e : Nat} {name : Str} {id : String} {args : List Value} {Q : Option Value → Shared → Prop} (X : (Mine.hd.heap_1 w.params).In s.heap) (hx : s.heap.get? x = some (aO vs e d))
    (hs : findIn (Mine.hd.heap_1 w.params) (.ref 178) name = some (some (.builtin id))) (hb : bindSpecial (.builtin id) (.ref x) = pure (.builtin id, [.ref x])) (hc : wpAny (MM w) A (PySem.call (.builtin id) (.ref x :: args)) (fun v => Q (some v)) E s) :
    wpAny (MM w) A (callSpecial? (.ref x) name args) Q E s := by
  refine wpAny_bind (wpAny_bind ((accTy hx).here ((looks_findIn X hs).here (wpAny_holding ?_))))
  rw [hb]
  exact wpAny_bind (wpAny_pure (wpAny_bind (wpAny_mono hc (fun _ _ z => wpAny_pure z) fun _ _ z => z)))
theorem accSeqKey {x d : Addr} {vs : List Value} {e : Nat} {k : Value} {name : Str} {Q : Value → Shared → Prop} (X : (Mine.hd.heap_1 w.params).In s.heap) (hx : s.heap.get? x = some (aO vs e d)) (h : Q k s) : wpAny (MM w) A (sequenceKey (.ref x) k name) Q E s := by
  have hsub := looks_mroIn (M := MM w) X (C := 178) (base := .type "collections.deque") (r := false) (by k_is)
  unfold sequenceKey
  refine wpAny_bind ((accTy hx).here ?_)
  show wpAny _ _ (do let b ← seqItemTypes.anyM fun n => isSubtype (.ref 178) (.type n); _) _ _ _
  refine wpAny_bind ?_
  unfold seqItemTypes
  simp only [List.anyM]
  refine wpAny_bind (hsub.here ?_)
  exact wpAny_pure (wpAny_pure h)
theorem accTail {x d : Addr} {vs : List Value} {e : Nat} {value slice : Expr} {i : Value} {ops : List Value} {Q : Value → Shared → Prop} (X : (Mine.hd.heap_1 w.params).In s.heap) (hx : s.heap.get? x = some (aO vs e d)) (hg : wpAny (MM w) A (getItem (.ref x) i) Q E s)
    (hs : subscripted slice false (.ref x) i = operate ops (getItem (.ref x) i)) : wpAny (MM w) A (subscriptTail value slice (.ref x) i) Q E s := by
  have hf : findIn (Mine.hd.heap_1 w.params) (.ref 178) "__getitem__" = some (some (.builtin "list.__getitem__")) := by k_is
  unfold subscriptTail
  refine wpAny_bind ?_
  rw [getitemInPython_of_ne (by intro h; cases h)]
  refine wpAny_bind (wpAny_bind ((accTy hx).here ((looks_findIn X hf).here ?_)))
  have fin : wpAny (MM w) A (subscripted slice false (.ref x) i) (fun r s₃ => wpAny (MM w) A (letTemporaryGo value (.ref x) r >>= fun _ => pure r) Q E s₃) E s := by
    rw [hs]
    exact wpAny_operating (wpAny_mono hg (fun r s₃ h₃ => wpAny_bind (wpAny_letTemporaryGo (wpAny_pure h₃))) fun _ _ x => x)
  first
    | exact wpAny_pure (wpAny_bind fin)
    | exact wpAny_bind (wpAny_pure (wpAny_bind fin))
    | exact wpAny_bind fin
theorem accItem {x d : Addr} {vs : List Value} {e : Nat} {value slice : Expr} {k : Int} {t : Tok} {v : Value} {Q : Value → Shared → Prop} (S : Sit w n A env o₀ Fs J m news s) (hx : s.heap.get? x = some (aO vs e d)) (h0 : 0 ≤ k) (hf : k < 2 ^ 63) (hv : vs[k.toNat]? = some v) (h : Q v s)
    (hs : subscripted slice false (.ref x) (.int k t) = operate [.ref x, .int k t] (getItem (.ref x) (.int k t)) := by with_unfolding_all rfl) :
    wpAny (MM w) A (subscriptTail value slice (.ref x) (.int k t)) Q E s := by
  refine accTail S.X hx ?_ hs
  unfold getItem
  refine wpAny_holding (wpAny_bind (accSeqKey S.X hx ?_))
  refine wpAny_bind (accSpecial S.X hx (by k_is) (slot_list_getitem.bind _) ?_)
  refine callAcc (n := "__getitem__") S hx (by decide +kernel) (by first | exact .inl (by decide +kernel) | exact .inr (by decide +kernel)) (by decide +kernel) entry_list_getitem (args_list_getitem _ _) ?_
  show wpAny _ _ (Builtin.List.listSubscript? (.int k t) >>= _) _ _ s
  refine wpAny_bind (wpAny_listSubscript_int (fitsIndex_of h0 hf) ?_)
  clear hf
  obtain ⟨j, rfl⟩ := Int.eq_ofNat_of_zero_le h0
  have hx' : vs.toArray[j]? = some v := by simpa using hv
  show wpAny _ _ ((seqItemAt x j >>= fun r => pure (r.map (j, ·))) >>= _) _ _ s
  refine wpAny_bind (wpAny_bind (wpAny_seqItemAt hx rfl (wpAny_pure ?_)))
  rw [hx']
  first
    | exact wpAny_bind (wpAny_pure (wpAny_pure ⟨v, rfl, wpAny_pure h⟩))
    | exact wpAny_pure ⟨v, rfl, wpAny_pure h⟩
theorem accSlice {x d sl : Addr} {vs : List Value} {e : Nat} {k : Nat} {t : Tok} {Q : Value → Shared → Prop} (S : Sit w n A env o₀ Fs J m news s) (hx : s.heap.get? x = some (aO vs e d)) (hs : s.heap.IsSliceOf sl (.int k t) .none .none) (hz : vs.length ≤ 1000)
    (h : ∀ a s', Sit w n A env o₀ Fs J m ((a, lO (vs.drop k) 0) :: news) s' → Q (.ref a) s') : wpAny (MM w) A (getItem (.ref x) (.ref sl)) Q E s := by
  obtain ⟨os, hos, hcs, hds⟩ := id hs
  have hTs : s.TypeIs (.ref sl) "slice" := ⟨os, hos, hcs⟩
  have S1 := S.push (k := s.toks) (lO (vs.drop k) 0)
  have h := h _ _ S1
  unfold getItem
  refine wpAny_holding (wpAny_bind (accSeqKey S.X hx ?_))
  refine wpAny_bind (accSpecial S.X hx (by k_is) (slot_list_getitem.bind _) ?_)
  refine callAcc (n := "__getitem__") S hx (by decide +kernel) (by first | exact .inl (by decide +kernel) | exact .inr (by decide +kernel)) (by decide +kernel) entry_list_getitem (args_list_getitem _ _) ?_
  show wpAny _ _ (Builtin.List.listSubscript? (.ref sl) >>= _) _ _ s
  refine wpAny_bind ?_
  unfold Builtin.List.listSubscript?
  refine wpAny_bind (wpAny_specialOf hTs slice_no_index ?_)
  simp only [Option.isNone_none, if_true]
  refine wpAny_pure ?_
  show wpAny _ _ (typeOf (.ref sl) >>= _) _ _ s
  refine wpAny_bind (wpAny_typeOf hTs ?_)
  rw [if_neg (by decide)]
  rw [listSliceParts_eq]
  refine wpAny_bind (wpAny_bind (wpAny_field hos hds (x := .none) rfl (wpAny_bind (wpAny_listPart .none ?_))))
  rw [if_neg (by exact Bool.false_ne_true)]
  refine wpAny_bind (wpAny_field hos hds (x := .int k t) rfl (wpAny_bind (wpAny_listPart (.int k t) ?_)))
  refine wpAny_bind (wpAny_field hos hds (x := .none) rfl (wpAny_bind (wpAny_listPart .none (wpAny_pure ?_))))
  refine wpAny_bind (m := Builtin.List.listItems (.ref x)) ?_
  unfold Builtin.List.listItems
  refine wpAny_bind (wpAny_seqItems hx rfl (wpAny_pure ?_))
  refine wpAny_bind (wpAny_of_eq (sliceIndices_raw (some (k : Int)) none none vs.toArray.size (by simp)) ?_)
  have hsz : (slicePick vs.toArray (some (k : Int)) none none).size ≤ sizeLine := Nat.le_trans (slicePick_size_le vs.toArray _ _ _) (by rw [sizeLine_eq]; simp; omega)
  have he : slicePick vs.toArray (some (k : Int)) none none = (vs.drop k).toArray := by rw [slicePick_from']
  refine wpAny_bind (wpAny_newObj_type (wpAny_pure ⟨_, rfl, wpAny_pure ?_⟩) hsz)
  show Q _ { s with heap := s.heap.push { cls := .type "list", data := .seq (slicePick vs.toArray (some (k : Int)) none none) } }
  rw [he]
  exact h
theorem accSetSlice {x d sl l : Addr} {vs us : List Value} {e e' : Nat} {k : Nat} {vl : Value} {lo : Option Int} {Q : Unit → Shared → Prop} (S : Sit w n A env o₀ Fs J m ((x, aO vs e d) :: news) s) (hl : s.heap.get? l = some (lO us e')) (hs : s.heap.IsSliceOf sl vl .none .none)
    (pl : IsPart vl lo) (hb : sliceBounds lo none none vs.length = ((k : Int), (vs.length : Int), 1)) (hk : k ≤ vs.length) (hz : vs.length + us.length ≤ 1000)
    (h : ∀ s' e2, Sit w n A env o₀ Fs J m ((x, aO (vs.take k ++ us) e2 d) :: news) s' → Q () s') : wpAny (MM w) A (setItem (.ref x) (.ref sl) (.ref l)) Q E s := by
  have hx := S.hd
  have hne : l ≠ x := by rintro rfl; rw [hx] at hl; cases hl
  obtain ⟨os, hos, hcs, hds⟩ := id hs
  have hTs : s.TypeIs (.ref sl) "slice" := ⟨os, hos, hcs⟩
  have hTl : s.TypeIs (.ref l) "list" := ⟨_, hl, rfl⟩
  unfold setItem
  refine wpAny_holding (wpAny_bind (accSeqKey S.X hx ?_))
  refine wpAny_bind (accSpecial S.X hx (by k_is) (slot_list_setitem.bind _) ?_)
  refine callAcc (n := "__setitem__") S hx (by decide +kernel) (by first | exact .inl (by decide +kernel) | exact .inr (by decide +kernel)) (by decide +kernel) entry_list_setitem (args_list_setitem _ _ _) ?_
  show wpAny _ _ (Builtin.List.listSubscript? (.ref sl) >>= _) _ _ s
  refine wpAny_bind ?_
  unfold Builtin.List.listSubscript?
  refine wpAny_bind (wpAny_specialOf hTs slice_no_index ?_)
  simp only [Option.isNone_none, if_true]
  refine wpAny_pure ?_
  show wpAny _ _ (typeOf (.ref sl) >>= _) _ _ s
  refine wpAny_bind (wpAny_typeOf hTs ?_)
  rw [if_neg (by decide)]
  rw [listSliceParts_eq]
  refine wpAny_bind (wpAny_bind (wpAny_field hos hds (x := .none) rfl (wpAny_bind (wpAny_listPart .none ?_))))
  rw [if_neg (by exact Bool.false_ne_true)]
  refine wpAny_bind (wpAny_field hos hds (x := vl) rfl (wpAny_bind (wpAny_listPart pl ?_)))
  refine wpAny_bind (wpAny_field hos hds (x := .none) rfl (wpAny_bind (wpAny_listPart .none (wpAny_pure ?_))))
  dsimp only
  rw [if_neg (by simp [Builtin.List.listSameRef]; exact fun q => hne q.symm)]
  unfold Builtin.List.listAllItems Builtin.List.listItems
  refine wpAny_bind (wpAny_bind (wpAny_typeOf hTl ?_))
  rw [if_pos (by decide)]
  refine wpAny_bind (wpAny_seqItems hl rfl (wpAny_pure ?_))
  refine wpAny_bind (wpAny_bind (wpAny_seqItems hx rfl (wpAny_pure ?_)))
  refine wpAny_bind (wpAny_of_eq (sliceIndices_raw lo none none vs.toArray.size (by simp)) ?_)
  rw [List.size_toArray, hb]
  dsimp only
  rw [if_pos (by decide)]
  refine wpAny_bind (wpAny_rule ?_)
  rw [if_neg (by simp only [Builtin.List.listTooLong, List.size_toArray, sizeLine_eq]; simp; omega)]
  unfold Builtin.List.listUpdate
  have hmax : (max (k : Int) (vs.length : Int)).toNat = vs.length := by omega
  rw [hmax, Int.toNat_natCast]
  have hnew : ∀ q : Array Value, q = vs.toArray → (q.extract 0 k ++ us.toArray ++ q.extract vs.length) = (vs.take k ++ us).toArray := fun q hq => by
    subst hq
    apply Array.toList_inj.mp
    simp
  refine wpAny_bind (wpAny_updateSeq hx rfl (wpAny_bind (wpAny_letGo (wpAny_pure ⟨_, rfl, wpAny_pure ?_⟩))) (hz := ?_) (_hz' := ?_))
  · refine h _ _ (S.turn (k := s.toks) (o' := aO (vs.take k ++ us) (if ((vs.take k ++ us).toArray.size == vs.toArray.size) = true then e else e + 1) d) (Heap.SameBut.update ..) ?_)
    rw [Heap.get?_update_self _ hx (by simp [Obj.mapSeq]; rfl)]
    simp only [Obj.mapSeq, hnew _ rfl]
  · rw [List.size_toArray, sizeLine_eq]; omega
  · rw [hnew _ rfl, List.size_toArray, sizeLine_eq]; simp; omega
theorem accInst {x dx : Addr} {vs : List Value} {e : Nat} {es : List DictEntry} {k : Nat} (hx : s.heap.get? x = some (aO vs e dx)) (hd : s.heap.get? dx = some (dictOf es k)) : InstAt s.heap x (aO vs e dx) 178 (some (dictOf es k)) := ⟨hx, rfl, rfl, hd⟩
theorem Sit.accLenB {x dx : Addr} {ps : List (Str × Str)} {i0 : Int} {led : Led} {Q : Value → Shared → Prop} (S : Sit w (n + 2) A env o₀ Fs J m (led ++ news) s) (hA : AccAt w J x dx ps i0 led) (hi : 0 ≤ i0 ∧ i0 ≤ 1000) (hz : lenOf ps ≤ 100000)
    (h : ∀ t led' s', AccAt w J x dx ps i0 led' → Sit w (n + 2) A env o₀ Fs J m (led' ++ news) s' → Q (.int (i0 + lenOf ps) t) s') : 
    wpAny (MM w) A.in1 (Builtin.«len» ⟨[.ref x], []⟩) (fun fin s' => ∃ v, fin = .done (.ret v) ∧ Q v s') E s := by
  have hA0 := hA
  obtain ⟨vs, e, tk, tv, k, o1, o2, rfl, hp, ht1, ht2⟩ := hA
  have I := accInst (s := s) (S.getN (a := x) (o := aO vs e dx) (by simp)) (S.getN (a := dx) (o := dictOf (szE w tk i0 tv) k) (by simp))
  unfold Builtin.«len»
  refine wpAny_bind (m := oneArg "len" _) (wpAny_pure ?_)
  refine wpAny_bind (m := callSpecial? (.ref x) (Str.ofString "__len__")) (special_fn S.X I (f := 145) (by k_is) (by k_is) ?_)
  refine len_spec S.in1 hA0 hi hz fun t led' s' hA' S' => ?_
  have h0 := lenOf_nonneg ps
  refine wpAny_bind (wpAny_holding (wpAny_pure ?_))
  refine wpAny_bind (wpAny_letGo ?_)
  show wpAny _ _ (if i0 + lenOf ps < 0 then _ else _) _ _ _
  rw [if_neg (by omega)]
  show wpAny _ _ (if i0 + lenOf ps ≥ 2 ^ 63 then _ else _) _ _ _
  rw [if_neg (by omega)]
  exact wpAny_bind (wpAny_mkInt (wpAny_pure ⟨_, rfl, h _ _ _ hA' ((S'.around S).toks _)⟩))
theorem Sit.accLenC {x dx : Addr} {ps : List (Str × Str)} {i0 : Int} {led : Led} {Q : Value → Shared → Prop} (S : Sit w (n + 2) A env o₀ Fs J m (led ++ news) s) (hA : AccAt w J x dx ps i0 led) (hi : 0 ≤ i0 ∧ i0 ≤ 1000) (hz : lenOf ps ≤ 100000)
    (h : ∀ t led' s', AccAt w J x dx ps i0 led' → Sit w (n + 2) A env o₀ Fs J m (led' ++ news) s' → Q (.int (i0 + lenOf ps) t) s') : wpAny (MM w) A (PySem.call (.builtin "len") [.ref x]) Q E s :=
  Calls.call_function_entry kind_len plain_len entry_len (args_len1 _) (S.accLenB hA hi hz h)
theorem Sit.accTruth {x dx : Addr} {ps : List (Str × Str)} {i0 : Int} {led : Led} {Q : Bool → Shared → Prop} (S : Sit w (n + 2) A env o₀ Fs J m (led ++ news) s) (hA : AccAt w J x dx ps i0 led) (hi : 0 ≤ i0 ∧ i0 ≤ 1000) (hz : lenOf ps ≤ 100000)
    (h : ∀ led' s', AccAt w J x dx ps i0 led' → Sit w (n + 2) A env o₀ Fs J m (led' ++ news) s' → Q (i0 + lenOf ps != 0) s') : wpAny (MM w) A (truthy (.ref x)) Q E s := by
  have hA0 := hA
  obtain ⟨vs, e, tk, tv, k, o1, o2, rfl, hp, ht1, ht2⟩ := hA
  have I := accInst (s := s) (S.getN (a := x) (o := aO vs e dx) (by simp)) (S.getN (a := dx) (o := dictOf (szE w tk i0 tv) k) (by simp))
  have hb : findIn (Mine.hd.heap_1 w.params) (.ref 178) "__bool__" = some none := by k_is
  have hl : findIn (Mine.hd.heap_1 w.params) (.ref 178) "__len__" = some (some (.ref 145)) := by k_is
  unfold truthy
  refine wpAny_bind (m := callSpecial? (.ref x) (Str.ofString "__bool__")) (wpAny_bind (wpAny_bind (I.type.here ((looks_findIn S.X hb).here (wpAny_pure ?_)))))
  refine wpAny_bind (wpAny_bind (I.type.here ((looks_findIn S.X hl).here ?_)))
  rw [if_neg (by decide)]
  refine wpAny_bind (wpAny_runValue (codeAny_builtin entry_len ?_))
  rw [Around.under_plainId plain_len _]
  refine wpAny_mono (S.accLenB hA0 hi hz (E := fun e s' => E e s') (Q := fun v s' => ∃ t led', v = .int (i0 + lenOf ps) t ∧ AccAt w J x dx ps i0 led' ∧ Sit w (n + 2) A env o₀ Fs J m (led' ++ news) s') fun t led' s' hA' S' => ⟨t, led', rfl, hA', S'⟩) (fun fin s' hv => ?_) fun _ _ e => e
  obtain ⟨v, rfl, t, led', rfl, hA', S'⟩ := hv
  exact wpAny_pure (h _ _ hA' S')
theorem Sit.accStr {x dx : Addr} {ps : List (Str × Str)} {i0 : Int} {led : Led} {Q : Value → Shared → Prop} (S : Sit w (n + 3) A env o₀ Fs J m (led ++ news) s) (hA : AccAt w J x dx ps i0 led) (hl : ps.length ≤ 1000) (hz : lenOf ps ≤ 100000)
    (h : ∀ t led' s', AccAt w J x dx ps i0 led' → Sit w (n + 3) A env o₀ Fs J m (led' ++ news) s' → Q (.str (txtP ps) t) s') : wpAny (MM w) A (PySem.call (.type "str") [.ref x]) Q E s := by
  have hA0 := hA
  obtain ⟨vs, e, tk, tv, k, o1, o2, rfl, hp, ht1, ht2⟩ := hA
  have I := accInst (s := s) (S.getN (a := x) (o := aO vs e dx) (by simp)) (S.getN (a := dx) (o := dictOf (szE w tk i0 tv) k) (by simp))
  have hu := S.in1.in1.units
  refine kso_call (by omega) S.X I (f := 152) (by k_is) (by k_is) ?_
  refine str_spec S.in1.in1 hA0 hl hz fun t led' s' hA' S' => ?_
  exact h _ _ _ hA' (S'.around S)
end
-- text AR
section
variable {w : World} {n : Nat} {A : Around} {env : Env} {o₀ : OsState} {Fs J : Know} {m : Loc} {news : Led} {s : Shared} {E : Value → Shared → Prop}
theorem szE_put {tk tv tj t' : Tok} {i0 j : Int} {h : Int} : putL iniK h (.str iniK t') (.int j tj) (szE w tk i0 tv) = szE w tk j tj := by
  unfold szE putL
  rw [if_pos (show (Value.str iniK tk).isStr iniK = true by simp [Value.isStr])]
theorem szE_putN {tk tv : Tok} {i0 : Int} {k : Nat} : putN iniK (szE w tk i0 tv) k = k := by
  unfold szE putN
  rw [if_pos (by simp [Value.isStr])]
theorem Sit.accSetIni {x dx : Addr} {vs : List Value} {e : Nat} {tk tv tj : Tok} {i0 j : Int} {k : Nat} {Q : Unit → Shared → Prop} (S : Sit w n A env o₀ Fs J m ((dx, dictOf (szE w tk i0 tv) k) :: news) s) (hx : (x, aO vs e dx) ∈ news)
    (h : ∀ s', Sit w n A env o₀ Fs J m ((dx, dictOf (szE w tk j tj) k) :: news) s' → Q () s') : wpAny (MM w) A (setAttr (.ref x) iniK (.int j tj)) Q E s := by
  obtain ⟨cd, hC, hmro, hhd⟩ := mro_acc (w := w)
  refine S.setDict (x := x) (C := 178) (S.getN (.tail _ hx)) rfl rfl rfl hC (by rw [hmro]; exact refuse_acc _) hhd (by k_is) (by k_is) (by k_is) ?_ ?_ ?_ ?_
  · unfold getL szE
    simp [Value.isStr]
  · rw [szE_put]; simp [szE]
  · intro t; rw [szE_put]; simp [szE]
  · intro t s' S'
    rw [szE_put, szE_putN] at S'
    exact h s' S'
theorem sl_none (N : Nat) : sliceBounds none none none N = (((0 : Nat) : Int), (N : Int), 1) := by simp [sliceBounds]
theorem sl_from {N k : Nat} (hk : k ≤ N) : sliceBounds (some (k : Int)) none none N = (((k : Nat) : Int), (N : Int), 1) := by
  have h1 : ¬ ((k : Int) < 0) := by omega
  simp only [sliceBounds, Option.getD_none, h1, if_false, show (1 : Int) > 0 from by decide, if_true]
  have : max 0 (min (k : Int) N) = k := by omega
  rw [this]
theorem reset0_spec {x dx : Addr} {ps : List (Str × Str)} {i0 : Int} {led : Led} {Q : Value → Shared → Prop} (S : Sit w (n + 1) A env o₀ Fs J m (led ++ news) s) (hA : AccAt w J x dx ps i0 led) (hz : ps.length ≤ 500)
    (h : ∀ led' s', AccAt w J x dx [] 0 led' → Sit w (n + 1) A env o₀ Fs J m (led' ++ news) s' → Q .none s') : wpAny (MM w) A (call (.ref 160) [.ref x]) Q E s := by
  obtain ⟨vs, e, tk, tv, k, o1, o2, rfl, hp, ht1, ht2⟩ := hA
  simp only [List.cons_append, List.nil_append] at S
  refine' Sit.defcall (f := 160) (binds := [(Str.ofString "self", .ref x), (Str.ofString "startval", .none)]) S ?ho ?hd ?hb ?hc ?hbi ?hce ?hlo ?hgl ?hbl ?hco ?hge ?hk ?_
  case ho => k_is
  case hd => rfl
  case hb => rfl
  case hc => k_is
  case hbi => exact BindsTo.of_defaults (T := 153) rfl (S.X 153 _ (by k_is)) rfl rfl rfl
  case hce => decide
  case hlo => exact locs rfl
  case hgl => rfl
  case hbl => rfl
  case hco => rfl
  case hge => rfl
  case hk => rfl
  intro env s E Fs' hsc hce hcd hql hfr S
  dsimp only at hsc hce hcd hql
  repeat kc_bool
  refine wpAny_is_self rfl ?_
  repeat kc_bool
  refine S.newL (by rw [sizeLine_eq]; simp) ?_
  intro l s S
  repeat kc_bool
  refine wpAny_Slice ?_
  rw [evalPart_none]
  refine wpAny_pure ?_
  refine wpAny_pure ?_
  refine wpAny_pure ?_
  have S := S.push (k := s.toks) { cls := .type "slice", data := .fields #[.none, .none, .none] }
  generalize hs2 : ({ s with heap := s.heap.push { cls := .type "slice", data := .fields #[.none, .none, .none] }, toks := s.toks } : Shared) = s2 at S
  have hsl : s2.heap.IsSliceOf s.heap.objs.size .none .none .none := ⟨_, S.hd, rfl, rfl⟩
  have hs2' : ({ s with heap := s.heap.push { cls := .type "slice", data := .fields #[.none, .none, .none] } } : Shared) = s2 := by rw [← hs2]
  (try rw [hs2'])
  have hl := S.getN (a := l) (o := lO [] 0) (by k_mem)
  have S := S.drop
  have S := S.perm (news' := (x, aO vs e dx) :: (l, lO [] 0) :: (dx, dictOf (szE w tk i0 tv) k) :: (140, o1) :: (147, o2) :: news) (List.Perm.swap _ _ _)
  refine accSetSlice (k := 0) S hl hsl .none (sl_none _) (Nat.zero_le _) (by rw [hp.1]; simp; omega) ?_
  intro s e2 S
  repeat kc_bool
  refine plainObj_wpAny_Assign_Attribute ?_
  repeat kc_bool
  have S := S.perm (news' := (dx, dictOf (szE w tk i0 tv) k) :: (x, aO (vs.take 0 ++ []) e2 dx) :: (l, lO [] 0) :: (140, o1) :: (147, o2) :: news) (List.perm_middle (l₁ := [_, _])).symm
  refine S.accSetIni (by k_mem) ?_
  intro s S
  repeat kc_bool
  have S := S.perm (news' := (l, lO [] 0) :: (x, aO (vs.take 0 ++ []) e2 dx) :: (dx, dictOf (szE w tk 0 _) k) :: (140, o1) :: (147, o2) :: news) (by
    refine (List.Perm.swap _ _ _).trans ?_
    refine (List.Perm.cons _ (List.Perm.swap _ _ _)).trans ?_
    exact List.Perm.swap _ _ _)
  exact ⟨_, _, _, S, fun S => h _ _ ⟨_, _, _, _, _, _, _, rfl, by simpa using PartsIn.nil, ht1, ht2⟩ S.drop⟩
theorem reset1_spec {x dx l : Addr} {ps qs : List (Str × Str)} {i0 : Int} {us : List Value} {e' : Nat} {led : Led} {Q : Value → Shared → Prop} (S : Sit w (n + 1) A env o₀ Fs J m (led ++ (l, lO us e') :: news) s) (hA : AccAt w J x dx ps i0 led) (hu : PartsIn J us qs) (hz : ps.length ≤ 500) (hz2 : qs.length ≤ 500)
    (h : ∀ led' s', AccAt w J x dx qs 0 led' → Sit w (n + 1) A env o₀ Fs J m (led' ++ news) s' → Q .none s') : wpAny (MM w) A (call (.ref 160) [.ref x, .ref l]) Q E s := by
  obtain ⟨vs, e, tk, tv, k, o1, o2, rfl, hp, ht1, ht2⟩ := hA
  simp only [List.cons_append, List.nil_append] at S
  refine' Sit.defcall (f := 160) (binds := [(Str.ofString "self", .ref x), (Str.ofString "startval", .ref l)]) S ?ho ?hd ?hb ?hc ?hbi ?hce ?hlo ?hgl ?hbl ?hco ?hge ?hk ?_
  case ho => k_is
  case hd => rfl
  case hb => rfl
  case hc => k_is
  case hbi => exact BindsTo.of_defaults (T := 153) rfl (S.X 153 _ (by k_is)) rfl rfl rfl
  case hce => decide
  case hlo => exact locs rfl
  case hgl => rfl
  case hbl => rfl
  case hco => rfl
  case hge => rfl
  case hk => rfl
  intro env s E Fs' hsc hce hcd hql hfr S
  dsimp only at hsc hce hcd hql
  repeat kc_bool
  refine is_none_gen ?_
  repeat kc_bool
  rw [if_neg (by exact Bool.false_ne_true)]
  repeat kc_bool
  refine wpAny_Slice ?_
  rw [evalPart_none]
  refine wpAny_pure ?_
  refine wpAny_pure ?_
  refine wpAny_pure ?_
  have S := S.push (k := s.toks) { cls := .type "slice", data := .fields #[.none, .none, .none] }
  generalize hs2 : ({ s with heap := s.heap.push { cls := .type "slice", data := .fields #[.none, .none, .none] }, toks := s.toks } : Shared) = s2 at S
  have hsl : s2.heap.IsSliceOf s.heap.objs.size .none .none .none := ⟨_, S.hd, rfl, rfl⟩
  have hs2' : ({ s with heap := s.heap.push { cls := .type "slice", data := .fields #[.none, .none, .none] } } : Shared) = s2 := by rw [← hs2]
  (try rw [hs2'])
  have hl := S.getN (a := l) (o := lO us e') (by k_mem)
  have S := S.drop
  refine accSetSlice (k := 0) S hl hsl .none (sl_none _) (Nat.zero_le _) (by rw [hp.1, hu.1]; omega) ?_
  intro s e2 S
  repeat kc_bool
  refine plainObj_wpAny_Assign_Attribute ?_
  repeat kc_bool
  have S := S.perm (news' := (dx, dictOf (szE w tk i0 tv) k) :: (x, aO (vs.take 0 ++ us) e2 dx) :: (140, o1) :: (147, o2) :: (l, lO us e') :: news) (List.Perm.swap _ _ _)
  refine S.accSetIni (by k_mem) ?_
  intro s S
  repeat kc_bool
  have S := S.perm (news' := (l, lO us e') :: (x, aO (vs.take 0 ++ us) e2 dx) :: (dx, dictOf (szE w tk 0 _) k) :: (140, o1) :: (147, o2) :: news) (by
    refine (List.perm_middle (l₁ := [_, _, _, _])).symm.trans ?_
    exact List.Perm.swap _ _ _)
  exact ⟨_, _, _, S, fun S => h _ _ ⟨_, _, _, _, _, _, _, rfl, by simpa using hu, ht1, ht2⟩ S.drop⟩
theorem pop_from_spec {x dx : Addr} {ps : List (Str × Str)} {i0 : Int} {k : Nat} {ti : Tok} {led : Led} {Q : Value → Shared → Prop} (S : Sit w (n + 1) A env o₀ Fs J m (led ++ news) s) (hA : AccAt w J x dx ps i0 led) (hz : ps.length ≤ 500) (hk : k ≤ ps.length)
    (h : ∀ l us led' s', PartsIn J us (ps.drop k) → AccAt w J x dx (ps.take k) i0 led' → Sit w (n + 1) A env o₀ Fs J m (led' ++ (l, lO us 0) :: news) s' → Q (.ref l) s') : wpAny (MM w) A (call (.ref 130) [.ref x, .int k ti]) Q E s := by
  obtain ⟨vs, e, tk, tv, kk, o1, o2, rfl, hp, ht1, ht2⟩ := hA
  simp only [List.cons_append, List.nil_append] at S
  refine' Sit.defcall (f := 130) (binds := [(Str.ofString "self", .ref x), (Str.ofString "i", .int k ti)]) S ?ho ?hd ?hb ?hc ?hbi ?hce ?hlo ?hgl ?hbl ?hco ?hge ?hk ?_
  case ho => k_is
  case hd => rfl
  case hb => rfl
  case hc => k_is
  case hbi => exact BindsTo.of_defaults (T := 123) rfl (S.X 123 _ (by k_is)) rfl rfl rfl
  case hce => decide
  case hlo => exact locs rfl
  case hgl => rfl
  case hbl => rfl
  case hco => rfl
  case hge => rfl
  case hk => rfl
  intro env s E Fs' hsc hce hcd hql hfr S
  dsimp only at hsc hce hcd hql
  repeat kc_bool
  refine wpAny_Slice ?_
  rw [evalPart_some]
  repeat kc_bool
  rw [evalPart_none]
  refine wpAny_pure ?_
  refine wpAny_pure ?_
  have S := S.push (k := s.toks) { cls := .type "slice", data := .fields #[.int k ti, .none, .none] }
  generalize hs2 : ({ s with heap := s.heap.push { cls := .type "slice", data := .fields #[.int k ti, .none, .none] }, toks := s.toks } : Shared) = s2 at S
  have hsl : s2.heap.IsSliceOf s.heap.objs.size (.int k ti) .none .none := ⟨_, S.hd, rfl, rfl⟩
  have hs2' : ({ s with heap := s.heap.push { cls := .type "slice", data := .fields #[.int k ti, .none, .none] } } : Shared) = s2 := by rw [← hs2]
  (try rw [hs2'])
  have S := S.drop
  refine accTail S.X S.hd ?_ rfl
  refine accSlice S S.hd hsl (by rw [hp.1]; omega) ?_
  clear hsl hs2 hs2'
  intro l s S
  repeat kc_bool
  refine S.newL (by rw [sizeLine_eq]; simp) ?_
  intro l2 s S
  repeat kc_bool
  refine wpAny_Slice ?_
  rw [evalPart_some]
  repeat kc_bool
  rw [evalPart_none]
  refine wpAny_pure ?_
  refine wpAny_pure ?_
  have S := S.push (k := s.toks) { cls := .type "slice", data := .fields #[.int k ti, .none, .none] }
  generalize hs2 : ({ s with heap := s.heap.push { cls := .type "slice", data := .fields #[.int k ti, .none, .none] }, toks := s.toks } : Shared) = s2 at S
  have hsl : s2.heap.IsSliceOf s.heap.objs.size (.int k ti) .none .none := ⟨_, S.hd, rfl, rfl⟩
  have hs2' : ({ s with heap := s.heap.push { cls := .type "slice", data := .fields #[.int k ti, .none, .none] } } : Shared) = s2 := by rw [← hs2]
  (try rw [hs2'])
  have hl := S.getN (a := l2) (o := lO [] 0) (by k_mem)
  have S := S.drop
  have S := S.perm (news' := (x, aO vs e dx) :: (l2, lO [] 0) :: (l, lO (vs.drop k) 0) :: (dx, dictOf (szE w tk i0 tv) kk) :: (140, o1) :: (147, o2) :: news) (List.perm_middle (l₁ := [_, _])).symm
  refine accSetSlice (k := k) S hl hsl (.int k ti) (sl_from (by rw [hp.1]; exact hk)) (by rw [hp.1]; exact hk) (by rw [hp.1]; simp; omega) ?_
  clear hsl hs2 hs2'
  intro s e2 S
  repeat kc_bool
  dsimp only
  have S := S.perm (news' := (l2, lO [] 0) :: (x, aO (vs.take k ++ []) e2 dx) :: (dx, dictOf (szE w tk i0 tv) kk) :: (140, o1) :: (147, o2) :: (l, lO (vs.drop k) 0) :: news) (by
    refine (List.Perm.swap _ _ _).trans ?_
    refine List.Perm.cons _ (List.Perm.cons _ ?_)
    exact (List.perm_middle (l₁ := [_, _, _])))
  exact ⟨_, _, _, S, fun S => h _ _ _ _ (hp.drop k) ⟨_, _, _, _, _, _, _, rfl, by simpa using hp.take k, ht1, ht2⟩ S.drop⟩
end
-- text AS2
section
variable {w : World} {n : Nat} {A : Around} {env : Env} {o₀ : OsState} {Fs J : Know} {m : Loc} {news : Led} {s : Shared} {E : Value → Shared → Prop}
theorem onlyws_spec {x dx : Addr} {ps : List (Str × Str)} {i0 : Int} {led : Led} {Q : Value → Shared → Prop} (S : Sit w (n + 4) A env o₀ Fs J m (led ++ news) s) (hA : AccAt w J x dx ps i0 led) (hi : 0 ≤ i0 ∧ i0 ≤ 1000) (hl : ps.length ≤ 1000) (hz : lenOf ps ≤ 100000)
    (hb : i0 ≠ 0 ∨ (lenOf ps ≠ 0 ∧ Txt.isspace (txtP ps) = false))
    (h : ∀ led' s', AccAt w J x dx ps i0 led' → Sit w (n + 4) A env o₀ Fs J m (led' ++ news) s' → Q (.bool false) s') : wpAny (MM w) A (call (.ref 167) [.ref x]) Q E s := by
  have hA0 := hA
  obtain ⟨vs, e, tk, tv, k, o1, o2, rfl, hp, ht1, ht2⟩ := hA
  ktr_call 167 [(Str.ofString "self", .ref x)]
  refine wpAny_execs_cons ?_
  refine wpAny_Return_some ?_
  refine BoolOp_and ?_
  repeat kc_bool
  refine S.accIni (x := x) (dx := dx) (vs := vs) (e := e) (tk := tk) (tv := tv) (i0 := i0) (k := k) (by simp) (by simp) ?_
  have S := S.toks (s.toks + 1)
  generalize ({ s with toks := s.toks + 1 } : Shared) = s at S ⊢
  repeat kc_bool
  by_cases hi0 : i0 = 0
  · subst hi0
    obtain hb | ⟨hb1, hb2⟩ := hb
    · exact absurd rfl hb
    rw [if_pos (by decide)]
    refine BoolOp_one ?_
    refine BoolOp_or ?_
    repeat kc_bool
    refine not_of ?_
    refine S.accTruth hA0 hi hz fun led' s hA' S => ?_
    repeat kc_bool
    rw [if_neg (by simpa using hb1)]
    refine BoolOp_one ?_
    repeat kc_bool
    refine S.accStr hA' hl hz fun t led2 s hA2 S => ?_
    with_reducible refine GM.isspace ?_
    repeat kc_bool
    refine SC.isspace ?_
    rw [hb2]
    dsimp only
    exact ⟨_, _, _, S, fun S => h _ _ hA2 S⟩
  · rw [if_neg (by simpa using hi0)]
    have e : (i0 == 0) = false := by simpa using hi0
    (try rw [e])
    dsimp only
    refine ⟨_, _, _, S, fun S => ?_⟩
    have := h _ _ hA0 S
    simpa [retv, hi0] using this
end
-- text AT
section
variable {w : World} {n : Nat} {A : Around} {env : Env} {o₀ : OsState} {Fs J : Know} {m : Loc} {news : Led} {s : Shared} {E : Value → Shared → Prop}
theorem clsobj_of {K : Frag} {C : Addr} {o : Obj} {cd : ClassData} {l : List Value} {v : Value} (ho : K.lookup C = some o) (hd : o.data = .cls cd) (h1 : cd.hasDel = false) (h2 : cd.mro = l) (h3 : (o.slots.toList[4]?).join = some v) :
    ∃ oc od cd sl, K.lookup C = some ⟨oc, od, .cls cd, sl⟩ ∧ cd.hasDel = false ∧ cd.mro = l ∧ (sl.toList[4]?).join = some v := by
  obtain ⟨a, b, c, d⟩ := o
  dsimp only at hd h3
  subst hd
  exact ⟨a, b, cd, d, ho, h1, h2, h3⟩
theorem accCls : ∃ oc od cd sl, (Mine.hd.heap_1 w.params).lookup 178 = some ⟨oc, od, .cls cd, sl⟩ ∧ cd.hasDel = false ∧ cd.mro = [.ref 178, .type "list", .type "object"] ∧ (sl.toList[4]?).join = some (.builtin "list.__new__") := by
  refine' clsobj_of ?ho ?hd ?h1 ?h2 ?h3
  case ho => k_is
  case hd => rfl
  case h1 => rfl
  case h2 => rfl
  case h3 => rfl
theorem acc_made {h : Heap} (X : (Mine.hd.heap_1 w.params).In h) : Looks (MM w) h (Bind.madeBy (.ref 178)) (some "list.__new__") := by
  obtain ⟨oc, od, cd, sl, ho, e2, hl, e3⟩ := accCls (w := w)
  have hc : clsIn (Mine.hd.heap_1 w.params) 178 = some cd := by unfold clsIn; rw [ho]
  have hm : Looks (MM w) h (mroOf (.ref 178)) cd.mro := (looks_clsIn X hc).andThen .now
  intro A Q E s k q
  unfold Bind.madeBy
  refine wpAny_bind (hm A _ E s k ?_)
  rw [hl, List.forIn_cons]
  refine wpAny_bind (wpAny_bind (wpAny_bind (wpAny_bind (wpAny_loadPart (k _ _ (X _ _ ho)) (wpAny_pure ?_)))))
  dsimp only
  rw [← Array.getElem?_toList, e3]
  exact wpAny_pure (wpAny_pure (wpAny_pure q))
theorem acc_base {h : Heap} (X : (Mine.hd.heap_1 w.params).In h) : Looks (MM w) h (Bind.staticBase (.ref 178)) (.ref 178) := by
  obtain ⟨oc, od, cd, sl, ho, e2, hl, e3⟩ := accCls (w := w)
  have hc : clsIn (Mine.hd.heap_1 w.params) 178 = some cd := by unfold clsIn; rw [ho]
  have hm : Looks (MM w) h (mroOf (.ref 178)) cd.mro := (looks_clsIn X hc).andThen .now
  intro A Q E s k q
  unfold Bind.staticBase
  refine wpAny_bind (hm A _ E s k ?_)
  rw [hl, List.forIn_cons]
  exact wpAny_bind (wpAny_bind (wpAny_bind (acc_made X A _ E s k (wpAny_pure (wpAny_pure (wpAny_pure q))))))
theorem kind_lnew : builtinKind "list.__new__" = some .builtinFn := by decide +kernel
theorem split_lnew : splitId "list.__new__" = some ("list", "__new__") := by decide +kernel
theorem acc_isType {h : Heap} {g : Array GenState} {d : Drawn} {t : Nat} {os : OsState} (X : (Mine.hd.heap_1 w.params).In h) {Q : Bool → Shared → Prop} (hq : Q true ⟨h, g, d, t, os⟩) : wpAny (MM w) A (isType (.ref 178)) Q E ⟨h, g, d, t, os⟩ := by
  obtain ⟨oc, od, cd, sl, ho, e2, hl, e3⟩ := accCls (w := w)
  exact ks_wpAny_isType_cls (X _ _ ho) rfl hq
theorem acc_new {h : Heap} {g : Array GenState} {d : Drawn} {t : Nat} {os : OsState} {R : Result → Shared → Prop} {a : Value} (X : (Mine.hd.heap_1 w.params).In h)
    (hq : R (.ok (.ret (.ref (h.objs.size + 1)))) ⟨(h.push emptyDict).push (aO [] 0 h.objs.size), g, d, t, os⟩) : codeAny (MM w) A (.call (.builtin "list.__new__") ⟨[.ref 178, a], []⟩) R ⟨h, g, d, t, os⟩ := by
  obtain ⟨oc, od, cd, sl, ho, e2, hl, e3⟩ := accCls (w := w)
  have hsub := looks_mroIn (M := MM w) X (C := 178) (base := .type "list") (r := true) (by k_is)
  have base := acc_base X
  have made := acc_made X
  refine codeAny_of_tree ?_
  show wpAny _ A.in1 (do checkBuiltinCall "list.__new__" ⟨[.ref 178, a], []⟩; again (.builtin "list.__new__" ⟨[.ref 178, a], []⟩)) _ _ _
  refine wpAny_bind ?_
  simp only [checkBuiltinCall, kind_lnew, split_lnew]
  rw [if_pos (by decide)]
  refine wpAny_bind (acc_isType X ?_)
  simp only [Bool.not_true, Bool.false_eq_true, if_false]
  refine wpAny_bind (hsub.at ?_)
  simp only [Bool.not_true, Bool.false_eq_true, if_false]
  refine wpAny_bind (base.at ?_)
  refine wpAny_bind (made.at ?_)
  dsimp only
  rw [if_neg (by simp)]
  refine wpAny_of_eq (a := ()) (by kernel_rfl) ?_
  refine wpAny_pure ⟨plainId_quiet F.plain_list_new _, codeAny_builtin_stack F.entry_list_new rfl fun p st => ?_⟩
  rw [Around.under_plainId F.plain_list_new _]
  have hown := owner_list_new
  simp only [hown]
  refine wpAny_bind (acc_isType X ?_)
  simp only [Bool.not_true, Bool.false_eq_true, if_false]
  refine wpAny_bind (hsub.at ?_)
  simp only [Bool.not_true, Bool.false_eq_true, if_false]
  refine wpAny_bind (wpAny_pure ?_)
  rw [if_neg (by decide)]
  refine wpAny_bind (wpAny_newObj_type ?_)
  dsimp only
  refine wpAny_bind ?_
  unfold newObj
  dsimp only
  rw [if_neg (by rw [sizeLine_eq]; decide)]
  unfold newObjAsIs classHasDel
  refine wpAny_bind (wpAny_alloc (wpAny_bind (wpAny_bind (wpAny_load (Heap.get?_push_of_some _ (Heap.get?_push_of_some _ (X _ _ ho))) (wpAny_pure ?_)))))
  rw [e2]
  refine wpAny_pure (wpAny_pure ?_)
  show R _ _
  rw [Heap.size_push]
  exact hq
theorem acc_core {h : Heap} {g : Array GenState} {d : Drawn} {t : Nat} {os : OsState} {R : Result → Shared → Prop} {a : Value} (X : (Mine.hd.heap_1 w.params).In h)
    (hq : codeAny (MM w) (A.under (.builtin "type.__call__" ⟨[.ref 178, a], []⟩)) (.call (.ref 115) ⟨[.ref (h.objs.size + 1), a], []⟩) (InitBack (h.objs.size + 1) R) ⟨(h.push emptyDict).push (aO [] 0 h.objs.size), g, d, t, os⟩) :
    codeAny (MM w) A (.call (.ref 178) ⟨[a], []⟩) R ⟨h, g, d, t, os⟩ := by
  obtain ⟨oc, od, cd, sl, hC, e2, hl, e3⟩ := accCls (w := w)
  have hc : clsIn (Mine.hd.heap_1 w.params) 178 = some cd := by unfold clsIn; rw [hC]
  have call : Looks (MM w) h (specialOf (.ref 178) "__call__") (some (.builtin "type.__call__")) := looks_specialIn X (by k_is)
  have typ : Looks (MM w) h (isInstance (.ref 178) (.type "type")) true := looks_instIn X (by k_is)
  have made := acc_made X
  have self := looks_mroIn (M := MM w) X (C := 178) (base := .ref 178) (r := true) (by k_is)
  have hi : Looks (MM w) h (typeLookup (.ref 178) "__init__") (some (.ref 115)) := looks_findIn X (by k_is)
  have hb : ∀ self, Looks (MM w) h (bindSpecial (.ref 115) self) (.ref 115, [self]) := fun self => bind_fn X self (by k_is)
  refine codeAny_of_tree ?_
  show wpAny _ _ (callAny (.ref 178) _) _ _ _
  refine nd_load (X _ _ hC) ?_
  show wpAny _ _ (callAny.viaDunder (.ref 178) _) _ _ _
  unfold callAny.viaDunder
  refine wpAny_bind (call.at ?_)
  dsimp only
  rw [tc_bind]
  refine wpAny_bind (wpAny_pure (wpAny_bind (wpAny_pure ?_)))
  refine wpAny_pure (a := Fin.again (.call (.builtin "type.__call__") ⟨[.ref 178, a], []⟩)) (And.intro rfl ?_)
  refine codeAny_call_builtin_at (Code.quiet_builtin _ (by decide +kernel)) entry_typeCall (check_slot tc_kind tc_split typ (tc_args _ _ _) ?_)
  unfold Builtin.«type.__call__»
  have hm : Looks (MM w) h (mroOf (.ref 178)) cd.mro := ((Looks.ld (part := none) (X _ _ hC)).andThen .now).andThen .now
  have e4 : cd.mro.isEmpty = false := by rw [hl]; rfl
  repeat (first | simp only [e4, Bool.false_eq_true, if_false] | with_reducible refine wpAny_call ?_ | lk)
  refine acc_new X ?_
  have k : ∀ b o, h.get? b = some o → ((h.push emptyDict).push (aO [] 0 h.objs.size)).get? b = some o := fun b o e => Heap.get?_push_of_some _ (Heap.get?_push_of_some _ e)
  have hx : ((h.push emptyDict).push (aO [] 0 h.objs.size)).get? (h.objs.size + 1) = some (aO [] 0 h.objs.size) := by heap_get
  have t1 : Looks (MM w) ((h.push emptyDict).push (aO [] 0 h.objs.size)) (typeOf (.ref (h.objs.size + 1))) (.ref 178) := (Looks.ld hx).andThen .now
  have s1 := self.keeps k
  have i1 := hi.keeps k
  have b1 := (hb (.ref (h.objs.size + 1))).keeps k
  unfold isInstance callSpecial? specialOf
  repeat (first | with_reducible refine wpAny_call ?_ | lk)
  refine codeAny_mono hq fun r s' z => ?_
  rcases r with e | (v | _ | _ | _) <;> first | exact z | exact z.elim | skip
  obtain ⟨rfl, z⟩ := z
  exact wpAny_pure (wpAny_pure z)
end
-- text AU
section
variable {w : World} {n : Nat} {A : Around} {env : Env} {o₀ : OsState} {Fs J : Know} {m : Loc} {news : Led} {s : Shared} {E : Value → Shared → Prop}
theorem bodyInit {x d : Addr} {e : Nat} {R : Value → Shared → Prop} (S : Sit w n A env o₀ Fs J m ((x, aO [] e d) :: news) s) {A' : Around}
    (h : ∀ e' s', Sit w n A env o₀ Fs J m ((x, aO [] e' d) :: news) s' → R .none s') : wpAny (MM w) A' (Builtin.«list.__init__» ⟨[.ref x], []⟩) (fun fin s' => ∃ v, fin = .done (.ret v) ∧ R v s') E s := by
  have hx := S.hd
  unfold Builtin.«list.__init__»
  dsimp only
  rw [if_neg (by decide), if_neg (by decide)]
  unfold Builtin.List.listItems Builtin.List.listUpdate
  refine wpAny_bind (wpAny_bind (wpAny_seqItems hx rfl (wpAny_pure ?_)))
  refine wpAny_bind (wpAny_updateSeq hx rfl ?_)
  refine wpAny_bind (wpAny_letGo ?_)
  refine wpAny_pure ⟨_, rfl, h (if ((#[] : Array Value).size == (([] : List Value).toArray).size) = true then e else e + 1) _ (S.turn (k := s.toks) (Heap.SameBut.update ..) ?_)⟩
  rw [Heap.get?_update_self _ hx (by simp [Obj.mapSeq]; rfl)]
  simp [Obj.mapSeq]
theorem makeAcc_spec {h0 : Int} {t : Tok} {Q : Value → Shared → Prop} (S : Sit w (n + 2) A env o₀ Fs J m news s)
    (h : ∀ x dx e tk tv k s', Sit w (n + 2) A env o₀ Fs J m ((x, aO [] e dx) :: (dx, dictOf (szE w tk h0 tv) k) :: news) s' → Q (.ref x) s') : wpAny (MM w) A (call (.ref 178) [.int h0 t]) Q E s := by
  have S0 := S
  have X := S.X
  have S2 := (S.push (k := s.toks) emptyDict).push (k := s.toks) (aO [] 0 s.heap.objs.size)
  obtain ⟨hh, g, d, t1, os⟩ := s
  refine wpAny_call (acc_core X ?_)
  rw [Heap.size_push] at S2
  dsimp only at S2
  generalize hxx : hh.objs.size + 1 = x at S2 ⊢
  generalize hdd : hh.objs.size = dx at S2 ⊢
  have S := S2.underC (C := 178) (rest := [.int h0 t]) (kw := [])
  generalize (⟨(hh.push emptyDict).push (aO [] 0 dx), g, d, t1, os⟩ : Shared) = s at S ⊢
  have hback : ∀ J' news' s'', Sit w (n + 1) (A.under (.builtin "type.__call__" ⟨[.ref 178, .int h0 t], []⟩)) env o₀ Fs J' m news' s'' → Sit w (n + 2) A env o₀ Fs J' m news' s'' := fun J' news' s'' S'' => S''.around S0
  generalize (A.under (.builtin "type.__call__" ⟨[.ref 178, .int h0 t], []⟩)) = A1 at S hback ⊢
  refine' Sit.defcodeS (f := 115) (binds := [(Str.ofString "self", .ref x), (Str.ofString "initial_size", .int h0 t)]) S ?ho ?hd ?hb ?hc ?hbi ?hce ?hlo ?hgl ?hbl ?hco ?hge ?hk ?_
  case ho => k_is
  case hd => rfl
  case hb => rfl
  case hc => k_is
  case hbi => exact BindsTo.of_defaults (T := 107) rfl (S.X 107 _ (by k_is)) rfl rfl rfl
  case hce => decide
  case hlo => exact locs rfl
  case hgl => rfl
  case hbl => rfl
  case hco => rfl
  case hge => rfl
  case hk => rfl
  intro env s E Fs' hsc hce hcd hfu S
  dsimp only at hsc hce hcd
  refine ks_wpAt_execs_cons ?_
  refine wpAt_of_wpAny ?_
  refine plainObj_wpAny_Assign_Attribute ?_
  repeat kc_bool
  have S := S.perm (news' := (dx, dictOf [] 0) :: (x, aO [] 0 dx) :: news) (List.Perm.swap _ _ _)
  obtain ⟨cd, hC, hmro, hhd⟩ := mro_acc (w := w)
  refine S.setDict (x := x) (C := 178) (S.getN (.tail _ (.head _))) rfl rfl rfl hC (by rw [hmro]; exact refuse_acc _) hhd (by k_is) (by k_is) (by k_is) rfl (by simp [putL]) (by intro _; simp [putL]) ?_
  intro tk s S
  have S : Sit w n (A1.deeper env) env o₀ Fs' J _ ((dx, dictOf (szE w tk h0 t) 1) :: (x, aO [] 0 dx) :: news) s := S
  refine ks_wpAt_execs_cons ?_
  refine ks_wpAt_Expr_any ?_ S.quiet
  refine ks_wpAt_MethodCall ?_
  refine' S.superB ?ho ?hd ?hp ?har hcd ?hc ?hcd2 ?hvs ?hfi hfu hce (kind_of hsc rfl) (kind_of hsc rfl) (kind_of hsc rfl) (by decide) rfl (S.getN (.tail _ (.head _))) ?_
  case ho => k_is
  case hd => rfl
  case hp => rfl
  case har => rfl
  case hc => k_is
  case hcd2 => rfl
  case hvs => rfl
  case hfi => first | rfl | decide +kernel
  intro so s S
  refine S.superM bInit S.hd (S.getN (.tail _ (.tail _ (.head _)))) along_init (by decide) ?_
  intro q s S
  refine callBnd0 (.inr rfl) S.hd ?_
  refine codeBnd0 (.inr rfl) S.hd (by decide +kernel) PySem.F.entry_list_init (fun hq => wpAny_of_eq (by kernel_rfl) hq) ?_
  have S := S.drop.drop
  have S := S.perm (news' := (x, aO [] 0 dx) :: (dx, dictOf (szE w tk h0 t) 1) :: news) (List.Perm.swap _ _ _)
  refine bodyInit S fun e' s S => ?_
  refine wpAt_of_wpAny (wpAny_execs_nil ?_)
  exact ⟨_, _, _, S, fun S => ⟨rfl, h _ _ _ _ _ _ _ (hback _ _ _ S)⟩⟩
end
-- text FB
section
variable {w : World} {n : Nat} {A : Around} {env : Env} {o₀ : OsState} {Fs J : Know} {m : Loc} {news : Led} {s : Shared} {E : Value → Shared → Prop}
theorem fn_get {f x C : Addr} {Q : PySem.Fin → Shared → Prop} {h : Heap} {g : Array GenState} {d : Drawn} {t : Nat} {os : OsState} (hq : Q (.done (.ret (.ref h.objs.size))) ⟨h.push (methodObj (.ref f) (.ref x)), g, d, t, os⟩) :
    wpAny (MM w) A (Builtin.«function.__get__» ⟨[.ref f, .ref x, .ref C], []⟩) Q E ⟨h, g, d, t, os⟩ := by
  unfold Builtin.«function.__get__»
  repeat (first | wp_step | dsimp only)
  all_goals exact hq
/-- two pairs of texts -/
theorem Sit.neT2 {a b : Addr} {f p f' p' : Str} {t u t' u' : Tok} {Q : Value → Shared → Prop} (S : Sit w (n + 1) A env o₀ Fs J m news s) (ha : J a (tO [.str f t, .str p u])) (hb : J b (tO [.str f' t', .str p' u'])) (h : Q (.bool (!(f == f' && p == p'))) s) :
    wpAny (MM w) A (compareOp .NotEq (.ref a) (.ref b)) Q E s := by
  have hu := S.units
  have := SeqAt.RcNeAt.tuples (A := A) (s := s) (l := a) (b := b) (items := #[.str f t, .str p u]) (items2 := #[.str f' t', .str p' u']) (e := fun j => if j = 0 then f == f' else p == p') ⟨_, S.get ha, rfl, 0, rfl⟩ ⟨_, S.get hb, rfl, 0, rfl⟩ (by omega) (fun j h1 h2 => by
    have hj : j = 0 ∨ j = 1 := by simp at h1; omega
    rcases hj with rfl | rfl
    · exact SeqAt.EqAt.str_str _ _ _ _
    · exact SeqAt.EqAt.str_str _ _ _ _)
  refine EqBoolInt.of_rcne this ?_
  simpa [List.range_succ] using h
theorem Sit.accPushM {x dx : Addr} {vs : List Value} {e : Nat} {tk tv : Tok} {i0 : Int} {k : Nat} {expr : Bool} {Q : Value → Shared → Prop} (S : Sit w n A env o₀ Fs J m news s) (hx : (x, aO vs e dx) ∈ news) (hd : (dx, dictOf (szE w tk i0 tv) k) ∈ news)
    (h : ∀ q s', Sit w n A env o₀ Fs J m ((q, methodObj (.ref 122) (.ref x)) :: news) s' → Q (.ref q) s') : wpAny (MM w) A (getAttr (.ref x) (Str.ofString "push") expr) Q E s := by
  have hx := S.getN hx
  have hd := S.getN hd
  have I : InstAt s.heap x (aO vs e dx) 178 (some (dictOf (szE w tk i0 tv) k)) := ⟨hx, rfl, rfl, hd⟩
  have X := S.X
  have hga : findIn (Mine.hd.heap_1 w.params) (.ref 178) "__getattribute__" = some (some (.builtin "list.__getattribute__")) := by k_is
  have hk : findIn (Mine.hd.heap_1 w.params) (.ref 178) "__getattr__" = some none := by k_is
  have L0 := I.type (M := MM w)
  have L1 := looks_findIn (M := MM w) X hga
  have L2 := looks_findIn (M := MM w) X hk
  have hfo : findObj (Mine.hd.heap_1 w.params) 178 (some (dictOf (szE w tk i0 tv) k)) (Str.ofString "push") = some (.bind (.builtin "function.__get__") (.ref 122)) := by kernel_rfl
  have L3 := looks_find (M := MM w) X I hfo
  unfold getAttr getAttrBy
  have S1 := S.toks (s.toks + 1)
  refine wpAny_bind (wpAny_mkText (wpAny_holding (wpAny_bind (L0.here (s := { s with toks := s.toks + 1 }) (wpAny_bind (L1.here (s := { s with toks := s.toks + 1 }) ?_))))))
  dsimp only
  rw [if_neg (by decide)]
  unfold getAttrByItsOwn hookBefore
  rw [if_pos (by rfl)]
  refine wpAny_bind (L2.here (s := { s with toks := s.toks + 1 }) ?_)
  refine wpAny_bind (wpAny_attempt (wpAny_holding ?_))
  have e1 : callGetattribute (.ref x) (.str (Str.ofString "push") s.toks) (.builtin "list.__getattribute__") expr = boundAndCalled (.builtin "list.__getattribute__") (.ref x) (.str (Str.ofString "push") s.toks) := by
    unfold callGetattribute
    rw [if_neg (by cases expr <;> decide)]
  rw [e1]
  unfold boundAndCalled
  rw [PySem.F.slot_list_getattribute.bind]
  refine wpAny_bind (wpAny_pure ?_)
  refine callAcc (n := "__getattribute__") S1 hx (by decide +kernel) (.inl (by decide +kernel)) (by decide +kernel) entry_list_ga (PySem.F.args_list_getattribute_2 _ _) ?_
  refine wpAny_bind (wpAny_pure (wpAny_bind (wpAny_pure (wpAny_bind (L0.here (s := { s with toks := s.toks + 1 }) (wpAny_bind (L3.here (s := { s with toks := s.toks + 1 }) ?_)))))))
  dsimp only
  unfold Builtin.ObjectAttr.bindTo
  dsimp only
  obtain ⟨of, hof, hofc⟩ : ∃ of, s.heap.get? 122 = some of ∧ of.cls = .type "function" := by
    have ht : typeIn (Mine.hd.heap_1 w.params) (.ref 122) = some (.type "function") := by k_is
    have ht' : ((Mine.hd.heap_1 w.params).lookup 122).map (·.cls) = some (.type "function") := ht
    cases z : (Mine.hd.heap_1 w.params).lookup 122 with
    | none => rw [z] at ht'; cases ht'
    | some of => rw [z] at ht'; exact ⟨of, X _ _ z, Option.some.inj ht'⟩
  refine wpAny_bind (wpAny_holding (wpAny_call_entry F.ks_slot_function_get ⟨_, hof, hofc⟩ F.ks_entry_function_get ?_ (F.ks_getArgs_function _ _ _)))
  have S2 := S.push (k := s.toks + 1) (methodObj (.ref 122) (.ref x))
  have h := h _ _ S2
  obtain ⟨hh, g, dd, t1, os⟩ := s
  refine fn_get ?_
  refine ⟨_, rfl, ?_⟩
  refine wpAny_pure ⟨_, rfl, ?_⟩
  dsimp only
  exact wpAny_pure h
theorem starT {a : Addr} {vs : List Value} {Q : List Value → Shared → Prop} (S : Sit w n A env o₀ Fs J m news s) (ha : J a (tO vs)) (hz : vs.length ≤ 1000) (h : ∀ s', Sit w n A env o₀ Fs J m news s' → Q vs s') : StarOf (MM w) A E (.ref a) Q s := by
  have D := S.get ha
  have hT' : s.TypeIs (.ref a) "tuple" := ⟨_, D, rfl⟩
  have z : wpAny (MM w) A (collect (.ref a)) Q E s := by
    refine wpAny_collect_seq a (.inr rfl) D rfl rfl (fun h' hk => h _ (S.keeps (k := s.toks) hk)) (by rw [sizeLine_eq]; simp; omega)
  unfold StarOf notIterableAtAll
  exact wpAny_bind (wpAny_specialOf hT' PySem.F.slot_tuple_iter.lookup (wpAny_pure ⟨rfl, z⟩))
theorem push_code {x dx : Addr} {ps : List (Str × Str)} {i0 : Int} {led : Led} {f p : Str} {t u : Tok} {R : Result → Shared → Prop} (S : Sit w (n + 1) A env o₀ Fs J m (led ++ news) s) (hA : AccAt w J x dx ps i0 led) (hz : ps.length ≤ 1000)
    (h : ∀ J' led' s', J.le J' → AccAt w J' x dx (ps ++ [(f, p)]) i0 led' → Sit w (n + 1) A env o₀ Fs J' m (led' ++ news) s' → R (.ok (.ret .none)) s') : codeAny (MM w) A (.call (.ref 122) ⟨[.ref x, .str f t, .str p u], []⟩) R s := by
  obtain ⟨vs, e, tk, tv, k, o1, o2, rfl, hp, ht1, ht2⟩ := hA
  simp only [List.cons_append, List.nil_append] at S
  refine' Sit.defcode (f := 122) (binds := [(Str.ofString "self", .ref x), (Str.ofString "fws", .str f t), (Str.ofString "string", .str p u)]) S ?ho ?hd ?hb ?hc ?hbi ?hce ?hlo ?hgl ?hbl ?hco ?hge ?hk ?_
  case ho => k_is
  case hd => rfl
  case hb => rfl
  case hc => k_is
  case hbi => exact BindsTo.of_eq rfl
  case hce => decide
  case hlo => exact locs rfl
  case hgl => rfl
  case hbl => rfl
  case hco => rfl
  case hge => rfl
  case hk => rfl
  intro env s E Fs' hsc hce hcd hql hfr S
  dsimp only at hsc hce hcd hql
  repeat kc_bool
  refine S.accM (by k_mem) (by k_mem) (by k_is) (by k_is) (by decide) (by decide) ?_
  repeat kc_bool
  refine S.newT (by rw [sizeLine_eq]; simp) ?_
  intro a J1 s hle1 ha S
  repeat kc_bool
  refine S.accAppend (by rw [hp.1, sizeLine_eq]; omega) ?_
  intro s S
  dsimp only
  repeat kc_bool
  exact ⟨_, _, _, S, fun S => h _ _ _ hle1 ⟨_, _, _, _, _, _, _, rfl, (hp.mono hle1).snoc ha, ht1, ht2⟩ S⟩
noncomputable def unstarred1 : List Expr → Bool
  | [.Starred ..] => true
  | _ => false
/-- self._current_line.push(*pair) -/
theorem starCall {o e : Expr} {name : Str} {apos pos p : Pos} {Q : Value → Shared → Prop}
    (h : wpAny (MM w) A (eval o env) (fun ov s₁ => wpAny (MM w) A (getAttr ov name true) (fun fx s₂ => wpAny (MM w) A (callWith pos fx [] (backTo pos (starEach [.Starred e p] env)) []) Q E s₂) E s₁) E s)
    (hb : notSuper o = true) : wpAny (MM w) A (eval (.Call (.Attribute o name apos) [.Starred e p] [] pos) env) Q E s := by
  show wpAny (MM w) A (do
    let ov ← attributeBase o name env (eval o env)
    standAt apos.atName
    methodCall o name apos pos env ov (([.Starred e p] : List Expr).length + ([] : List Keyword).length) (backTo pos (starEach [.Starred e p] env)) (backToKw pos (keywordEach [] env))) Q E s
  rw [base_c hb]
  refine wpAny_bind (wpAny_mono h (fun ov s₁ h₁ => wpAny_bind (wpAny_standAt ?_)) fun _ _ z => z)
  unfold methodCall
  have hf : methodCallForm (([.Starred e p] : List Expr).length + ([] : List Keyword).length) (backTo pos (starEach [.Starred e p] env)) (backToKw pos (keywordEach [] env)) = false := by
    unfold methodCallForm
    rfl
  rw [hf]
  unfold calleeOf methodCallPos
  simp only [Bool.not_false, Bool.true_or, if_true, Bool.false_eq_true, if_false]
  exact wpAny_bind (wpAny_holding (wpAny_bind (wpAny_mono h₁ (fun fx s₂ h₂ => wpAny_pure (wpAny_bind (wpAny_pure h₂))) fun _ _ z => z)))
theorem Sit.starPush {q x dx a : Addr} {ps : List (Str × Str)} {i0 : Int} {led : Led} {f p : Str} {t u : Tok} {nm : Str} {pn pp pos : Pos} {Q : Value → Shared → Prop} (S : Sit w (n + 1) A env o₀ Fs J m ((q, methodObj (.ref 122) (.ref x)) :: (led ++ news)) s) (hA : AccAt w J x dx ps i0 led) (hz : ps.length ≤ 1000)
    (ha : J a (tO [.str f t, .str p u])) (hk : env.kindOf nm = some .local) (hv : m nm = some (.ref a)) (hd : (nm == ("__debug__" : Str)) = false)
    (h : ∀ J' led' s', J.le J' → AccAt w J' x dx (ps ++ [(f, p)]) i0 led' → Sit w (n + 1) A env o₀ Fs J' m (led' ++ news) s' → Q .none s') :
    wpAny (MM w) A (callWith pos (.ref q) [] (backTo pos (starEach [.Starred (.Name nm pn) pp] env)) []) Q E s := by
  rw [show starEach [.Starred (.Name nm pn) pp] env = [(true, eval (.Name nm pn) env)] from rfl]
  refine ks_call (P := MethP (Mine.hd.heap_1 w.params) q 122 (.ref x)) rfl (fun h hp => keeps_M (by k_is) h hp) (ks_lone ?_)
  refine S.ld hk hv ?_ hd
  refine starT S ha (by simp) fun s S => ⟨⟨S.hd, S.X⟩, ?_⟩
  refine wpAny_call (ks_codeAny_call_bound S.hd ?_)
  exact push_code S.drop hA hz fun J' led' s' hle hA' S' => h J' led' s' hle hA' S'
end
-- text FC
section
variable {w : World} {n : Nat} {A : Around} {env : Env} {o₀ : OsState} {Fs J : Know} {m : Loc} {news : Led} {s : Shared} {E : Value → Shared → Prop}
structure FmV where
  k1 : Tok
  k2 : Tok
  k3 : Tok
  k4 : Tok
  k5 : Tok
  k6 : Tok
  t1 : Tok
  t2 : Tok
  t3 : Tok
  t4 : Tok
noncomputable def fmD (w : World) (v : FmV) (W : Int) (LL x : Addr) : List DictEntry := [
  ⟨PyData.keyHash w.params (Str.ofString "_maxlen"), .str (Str.ofString "_maxlen") v.k1, .int W v.t1⟩,
  ⟨PyData.keyHash w.params (Str.ofString "_continuation_ws"), .str (Str.ofString "_continuation_ws") v.k2, .str (Str.ofString " ") v.t2⟩,
  ⟨PyData.keyHash w.params (Str.ofString "_continuation_ws_len"), .str (Str.ofString "_continuation_ws_len") v.k3, .int 1 v.t3⟩,
  ⟨PyData.keyHash w.params (Str.ofString "_splitchars"), .str (Str.ofString "_splitchars") v.k4, .str (Str.ofString " ") v.t4⟩,
  ⟨PyData.keyHash w.params (Str.ofString "_lines"), .str (Str.ofString "_lines") v.k5, .ref LL⟩,
  ⟨PyData.keyHash w.params (Str.ofString "_current_line"), .str (Str.ofString "_current_line") v.k6, .ref x⟩]
noncomputable def FmIn (w : World) (J : Know) (F LL x : Addr) (W : Int) (v : FmV) : Prop := ∃ dF k, J F (instObj 94 dF) ∧ J dF (dictOf (fmD w v W LL x) k)
theorem FmIn.mono {J J' : Know} {F LL x : Addr} {W : Int} {v : FmV} (h : J.le J') (a : FmIn w J F LL x W v) : FmIn w J' F LL x W v := let ⟨dF, k, h1, h2⟩ := a; ⟨dF, k, h _ _ h1, h _ _ h2⟩
section
variable {F LL x : Addr} {W : Int} {v : FmV}
theorem Sit.fmI (S : Sit w n A env o₀ Fs J m news s) (hF : FmIn w J F LL x W v) : ∃ dF k, InstAt s.heap F (instObj 94 dF) 94 (some (dictOf (fmD w v W LL x) k)) := let ⟨dF, k, h1, h2⟩ := hF; ⟨dF, k, S.get h1, rfl, rfl, S.get h2⟩
theorem Sit.fmGet {name : Str} {r : Value} {expr : Bool} {Q : Value → Shared → Prop} (S : Sit w n A env o₀ Fs J m news s) (hF : FmIn w J F LL x W v) (ha : findIn (Mine.hd.heap_1 w.params) (.ref 94) name = some none) (hl : getL name (fmD w v W LL x) = some (some r)) (hh : handedIn r = true)
    (h : ∀ s', Sit w n A env o₀ Fs J m news s' → Q r s') : wpAny (MM w) A (getAttr (.ref F) name expr) Q E s := by
  obtain ⟨dF, k, I⟩ := S.fmI hF
  exact get_value S.X I (by k_is) (findObj_own (by k_is) ha rfl hl) hh (h _ (S.toks _))
theorem Sit.fmMeth {name : Str} {f : Addr} {pl : Sem Bool} {Q : Value × List Value → Shared → Prop} (S : Sit w n A env o₀ Fs J m news s) (hF : FmIn w J F LL x W v) (hf : findIn (Mine.hd.heap_1 w.params) (.ref 94) name = some (some (.ref f))) (ht : typeIn (Mine.hd.heap_1 w.params) (.ref f) = some (.type "function"))
    (hs : ∀ k, shadowIn (some (dictOf (fmD w v W LL x) k)) name = some false) (h : Q (.ref f, [.ref F]) s) : wpAny (MM w) A (getMethod (.ref F) name pl) Q E s := by
  obtain ⟨dF, k, I⟩ := S.fmI hF
  exact method_fn S.X I (by k_is) (by k_is) hf ht (hs k) h
theorem Sit.fmCur {expr : Bool} {Q : Value → Shared → Prop} (S : Sit w n A env o₀ Fs J m news s) (hF : FmIn w J F LL x W v) (h : ∀ s', Sit w n A env o₀ Fs J m news s' → Q (.ref x) s') : wpAny (MM w) A (getAttr (.ref F) (Str.ofString "_current_line") expr) Q E s := S.fmGet (r := .ref x) hF (by k_is) rfl rfl h
theorem Sit.fmLines {expr : Bool} {Q : Value → Shared → Prop} (S : Sit w n A env o₀ Fs J m news s) (hF : FmIn w J F LL x W v) (h : ∀ s', Sit w n A env o₀ Fs J m news s' → Q (.ref LL) s') : wpAny (MM w) A (getAttr (.ref F) (Str.ofString "_lines") expr) Q E s := S.fmGet (r := .ref LL) hF (by k_is) rfl rfl h
theorem Sit.fmMax {expr : Bool} {Q : Value → Shared → Prop} (S : Sit w n A env o₀ Fs J m news s) (hF : FmIn w J F LL x W v) (h : ∀ s', Sit w n A env o₀ Fs J m news s' → Q (.int W v.t1) s') : wpAny (MM w) A (getAttr (.ref F) (Str.ofString "_maxlen") expr) Q E s := S.fmGet (r := .int W v.t1) hF (by k_is) rfl rfl h
theorem Sit.fmSplit {expr : Bool} {Q : Value → Shared → Prop} (S : Sit w n A env o₀ Fs J m news s) (hF : FmIn w J F LL x W v) (h : ∀ s', Sit w n A env o₀ Fs J m news s' → Q (.str (Str.ofString " ") v.t4) s') : wpAny (MM w) A (getAttr (.ref F) (Str.ofString "_splitchars") expr) Q E s := S.fmGet (r := .str (Str.ofString " ") v.t4) hF (by k_is) rfl rfl h
theorem Sit.accMA {dx : Addr} {ps : List (Str × Str)} {i0 : Int} {led : Led} {name : Str} {f tf : Value} {pl : Sem Bool} {Q : Value × List Value → Shared → Prop} (S : Sit w n A env o₀ Fs J m (led ++ news) s) (hA : AccAt w J x dx ps i0 led)
    (hf : findIn (Mine.hd.heap_1 w.params) (.ref 178) name = some (some f)) (ht : typeIn (Mine.hd.heap_1 w.params) f = some tf) (htf : (tf != .type "function" && tf != .type "method_descriptor" && tf != .type "wrapper_descriptor") = false) (hs : (iniK == name) = false) (h : Q (f, [.ref x]) s) :
    wpAny (MM w) A (getMethod (.ref x) name pl) Q E s := by
  obtain ⟨vs, e, tk, tv, k, o1, o2, rfl, hp, ht1, ht2⟩ := hA
  exact S.accM (vs := vs) (e := e) (dx := dx) (tk := tk) (tv := tv) (i0 := i0) (k := k) (by simp) (by simp) hf ht htf hs h
theorem Sit.accPushA {dx : Addr} {ps : List (Str × Str)} {i0 : Int} {led : Led} {expr : Bool} {Q : Value → Shared → Prop} (S : Sit w n A env o₀ Fs J m (led ++ news) s) (hA : AccAt w J x dx ps i0 led)
    (h : ∀ q s', Sit w n A env o₀ Fs J m ((q, methodObj (.ref 122) (.ref x)) :: (led ++ news)) s' → Q (.ref q) s') : wpAny (MM w) A (getAttr (.ref x) (Str.ofString "push") expr) Q E s := by
  obtain ⟨vs, e, tk, tv, k, o1, o2, rfl, hp, ht1, ht2⟩ := hA
  exact S.accPushM (vs := vs) (e := e) (dx := dx) (tk := tk) (tv := tv) (i0 := i0) (k := k) (by simp) (by simp) h
example : getL (Str.ofString "_current_line") (fmD w v W LL x) = some (some (.ref x)) := rfl
example (k : Nat) : shadowIn (some (dictOf (fmD w v W LL x) k)) (Str.ofString "newline") = some false := rfl
noncomputable def txtE : Str := Str.ofString ""
theorem popG_spec {dx : Addr} {ps ps' : List (Str × Str)} {f p : Str} {i0 : Int} {led : Led} {Q : Value → Shared → Prop} (S : Sit w (n + 2) A env o₀ Fs J m (led ++ news) s) (hA : AccAt w J x dx ps i0 led) (hz : ps.length ≤ 1000)
    (hg : ps = ps' ++ [(f, p)] ∨ (ps = [] ∧ ps' = [] ∧ f = txtE ∧ p = txtE))
    (h : ∀ a t u J' led' s', J.le J' → J' a (tO [.str f t, .str p u]) → AccAt w J' x dx ps' i0 led' → Sit w (n + 2) A env o₀ Fs J' m (led' ++ news) s' → Q (.ref a) s') : wpAny (MM w) A (call (.ref 138) [.ref x]) Q E s := by
  rcases hg with rfl | ⟨rfl, rfl, rfl, rfl⟩
  · exact pop_spec S hA (by simp at hz; omega) fun a t u led' s' ha hA' S' => h a t u J led' s' (.refl _) ha hA' S'
  · exact pop0_spec S hA fun a t u J' s' hle ha S' => h a t u J' led s' hle ha (hA.mono hle) S'
theorem newline_spec {dx : Addr} {ps ps' : List (Str × Str)} {f p : Str} {i0 : Int} {led : Led} {lvs : List Value} {le : Nat} {lines : List Str} {Q : Value → Shared → Prop} (S : Sit w (n + 6) A env o₀ Fs J m (led ++ (LL, lO lvs le) :: news) s) (hF : FmIn w J F LL x W v) (hA : AccAt w J x dx ps i0 led)
    (hL : StrsAre lvs lines) (hi : 0 ≤ i0 ∧ i0 ≤ 1000) (hz : ps.length ≤ 400) (hln : lines.length ≤ 1000)
    (hg : ps = ps' ++ [(f, p)] ∨ (ps = [] ∧ ps' = [] ∧ f = txtE ∧ p = txtE)) (hne : (f == Str.ofString " " && p == Str.ofString "") = false) (hlen : lenOf (ps' ++ [(f, p)]) ≤ 100000) (hpos : 0 < i0 + lenOf (ps' ++ [(f, p)]))
    (hb : i0 ≠ 0 ∨ (lenOf (ps' ++ [(f, p)]) ≠ 0 ∧ Txt.isspace (txtP (ps' ++ [(f, p)])) = false))
    (h : ∀ J' led' lvs' le' s', J.le J' → AccAt w J' x dx [] 0 led' → StrsAre lvs' (lines ++ [txtP (ps' ++ [(f, p)])]) → Sit w (n + 6) A env o₀ Fs J' m (led' ++ (LL, lO lvs' le') :: news) s' → Q .none s') : wpAny (MM w) A (call (.ref 56) [.ref F]) Q E s := by
  ktr_call 56 [(Str.ofString "self", .ref F)]
  repeat kc_bool
  refine S.fmCur hF fun s S => ?_
  refine S.accMA hA (by k_is) (by k_is) (by decide) (by decide) ?_
  repeat kc_bool
  refine popG_spec S hA (by omega) hg fun a t u J1 led s hle1 ha hA S => ?_
  have hF := hF.mono hle1
  repeat kc_bool
  refine S.newT (by rw [sizeLine_eq]; simp) ?_
  intro b J2 s hle2 hb2 S
  have hF := hF.mono hle2
  have hA := hA.mono hle2
  have ha := hle2 _ _ ha
  refine S.neT2 ha hb2 ?_
  rw [hne]
  repeat kc_bool
  rw [if_pos (by decide)]
  repeat kc_bool
  refine starCall ?_ (by rfl)
  repeat kc_bool
  refine S.fmCur hF fun s S => ?_
  refine S.accPushA hA fun q s S => ?_
  refine S.starPush hA (by rcases hg with rfl | ⟨_, rfl, _⟩ <;> simp at hz ⊢; omega) ha (kind_of hsc rfl) rfl (by decide) fun J3 led s hle3 hA S => ?_
  have hF := hF.mono hle3
  repeat kc_bool
  refine S.fmCur hF fun s S => ?_
  repeat kc_bool
  refine S.accLenC hA hi hlen fun t led s hA S => ?_
  repeat kc_bool
  rw [if_pos (by simpa using hpos)]
  repeat kc_bool
  refine S.fmCur hF fun s S => ?_
  refine S.accMA hA (by k_is) (by k_is) (by decide) (by decide) ?_
  repeat kc_bool
  have hpl : (ps' ++ [(f, p)]).length ≤ 450 := by rcases hg with rfl | ⟨_, rfl, _⟩ <;> simp at hz ⊢; omega
  refine onlyws_spec S hA hi (by omega) hlen hb fun led s hA S => ?_
  repeat kc_bool
  refine S.fmLines hF fun s S => ?_
  have hLL := S.getN (a := LL) (o := lO lvs le) (by simp)
  with_reducible refine mList hLL PySem.F.slot_list_append PySem.F.type_list_append ?_
  repeat kc_bool
  refine S.fmCur hF fun s S => ?_
  repeat kc_bool
  refine S.accStr hA (by omega) hlen fun t led s hA S => ?_
  repeat kc_bool
  have S := S.perm (news' := (LL, lO lvs le) :: (led ++ news)) (List.perm_middle).symm
  refine S.append (by rw [hL.length, sizeLine_eq]; omega) fun s S => ?_
  dsimp only
  have S := S.perm (news' := led ++ (LL, lO (lvs ++ [_]) (le + 1)) :: news) (List.perm_middle)
  repeat kc_bool
  refine S.fmCur hF fun s S => ?_
  refine S.accMA hA (by k_is) (by k_is) (by decide) (by decide) ?_
  repeat kc_bool
  refine reset0_spec S hA (by omega) fun led s hA S => ?_
  dsimp only
  repeat kc_bool
  exact ⟨_, _, _, S, fun S => h _ _ _ _ _ ((hle1.trans hle2).trans hle3) hA (strs_snoc hL) S⟩
end
end
-- text FD
section
variable {w : World} {n : Nat} {A : Around} {env : Env} {o₀ : OsState} {Fs J : Know} {m : Loc} {news : Led} {s : Shared} {E : Value → Shared → Prop}
section
variable {I : Addr} {fp wr : List Addr} {N : Nat} {P : Nat → Value → Prop} {St : Nat → Heap → Prop} {k : Nat}
theorem Sit.forB {x : Str} {px : Pos} {body orelse : List Stmt} {R : Result → Shared → Prop} (S : Sit w n A env o₀ Fs J m news s) (hx : env.kindOf x = some .local) (W : Walks prg w A I fp wr N P St) (hwr : ∀ b ∈ wr, b = I)
    (hfp : ∀ b ∈ fp, b = I ∨ ∃ o, J b o) (hin : ∀ k h, St k h → ∃ o, h.get? I = some o) (hI : Loose env Fs J news s I) (hst : St 0 s.heap) (Inv : Nat → Know → Loc → Led → Prop) (Brk : Know → Loc → Led → Prop) (h0 : Inv 0 J m news)
    (hbody : ∀ k v J' m' news' Fs' s' E', k < N → P k v → J.le J' → Inv k J' m' news' → Sit w n A env o₀ Fs' J' (upd m' x v) news' s' →
      wpAny (MM w) A (execs body env) (fun f s'' => ((f = .next ∨ f = .cont) ∧ ∃ J'' m'' news'', J'.le J'' ∧ Inv (k + 1) J'' m'' news'' ∧ Sit w n A env o₀ Fs' J'' m'' news'' s'') ∨ (f = .brk ∧ ∃ J'' m'' news'', J'.le J'' ∧ Brk J'' m'' news'' ∧ Sit w n A env o₀ Fs' J'' m'' news'' s'')) E' s')
    (after : ∀ J' m' news' s' E', J.le J' → Inv N J' m' news' → Sit w n A env o₀ Fs J' m' news' s' → wpAny (MM w) A (execs orelse env) (fun f s₃ => R (.ok f) s₃) E' s')
    (brk : ∀ J' m' news' s', J.le J' → Brk J' m' news' → Sit w n A env o₀ Fs J' m' news' s' → R (.ok .next) s') :
    codeAny (MM w) A (.forLoop (.Name x px) (.ref I) body orelse env) R s := by
  refine codeAny_forLoop (fun j s => ∃ k J' m' news', j = N - k ∧ k ≤ N ∧ J.le J' ∧ Inv k J' m' news' ∧ Sit w n A env o₀ Fs J' m' news' s ∧ Loose env Fs J' news' s I ∧ St k s.heap) ?_ N ⟨0, J, m, news, rfl, Nat.zero_le _, .refl _, h0, S, hI, hst⟩ (fun _ => rfl)
  rintro j s ⟨k, J', m', news', rfl, hkN, hle, hinv, S, hI, hst⟩
  rcases Nat.lt_or_ge k N with hk | hk
  · refine S.next W hwr hI hin hst hk fun v s hP S hI hst => ?_
    dsimp only
    obtain ⟨oI, hoI⟩ := hI.1
    refine wpAny_assign_Name ((S.guard hI hoI).st_ hx fun s₂ S₂ => ?_)
    refine wpAny_mono (hbody k v J' m' news' _ s₂ _ hk hP hle hinv S₂) (fun f s₃ h => ?_) fun _ _ e => e
    rcases h with ⟨hf, J'', m'', news'', hle', hinv', G⟩ | ⟨rfl, J'', m'', news'', hle', hb', G⟩
    · obtain ⟨S₃, hI₃, hget⟩ := G.unguard hI.2.2.2.2
      have st : St (k + 1) s₃.heap := W.frame _ _ _ hst fun b hb o e => by
        rcases hfp b hb with rfl | ⟨o', ho'⟩
        · rw [hoI] at e; cases e; exact hget
        · have e1 := S.get (hle _ _ ho')
          rw [e1] at e; cases e
          exact S₃.get (hle' _ _ (hle _ _ ho'))
      have fin : ∃ m_1, m_1 < N - k ∧ ∃ k J' m' news', m_1 = N - k ∧ k ≤ N ∧ J.le J' ∧ Inv k J' m' news' ∧ Sit w n A env o₀ Fs J' m' news' s₃ ∧ Loose env Fs J' news' s₃ I ∧ St k s₃.heap :=
        ⟨N - (k + 1), by omega, k + 1, J'', m'', news'', rfl, hk, hle.trans hle', hinv', S₃, hI₃, st⟩
      rcases hf with rfl | rfl <;> exact fin
    · obtain ⟨S₃, hI₃, hget⟩ := G.unguard hI.2.2.2.2
      exact brk J'' m'' news'' s₃ (hle.trans hle') hb' S₃
  · obtain rfl : k = N := by omega
    refine S.nextEnd W hwr hI hst fun s S => after J' m' news' s _ hle hinv S
end
/-- for over one sign; the body leaves or goes on, nothing is known of it but what comes behind -/
theorem Sit.forOne {x : Str} {px : Pos} {body orelse : List Stmt} {c : Nat} {tb : Tok} {R : Result → Shared → Prop} (hc : c < 128) (S : Sit w n A env o₀ Fs J m news s) (hx : env.kindOf x = some .local) (Inv Brk : Know → Loc → Led → Prop)
    (hbody : ∀ t Fs' s' E', Sit w n A env o₀ Fs' J (upd m x (.str ⟨#[c]⟩ t)) news s' →
      wpAny (MM w) A (execs body env) (fun f s'' => ((f = .next ∨ f = .cont) ∧ ∃ J'' m'' news'', J.le J'' ∧ Inv J'' m'' news'' ∧ Sit w n A env o₀ Fs' J'' m'' news'' s'') ∨ (f = .brk ∧ ∃ J'' m'' news'', J.le J'' ∧ Brk J'' m'' news'' ∧ Sit w n A env o₀ Fs' J'' m'' news'' s'')) E' s')
    (after : ∀ J' m' news' s' E', J.le J' → Inv J' m' news' → Sit w n A env o₀ Fs J' m' news' s' → wpAny (MM w) A (execs orelse env) (fun f s₃ => R (.ok f) s₃) E' s')
    (brk : ∀ J' m' news' s', J.le J' → Brk J' m' news' → Sit w n A env o₀ Fs J' m' news' s' → R (.ok .next) s') :
    wpAny (MM w) A (pyIter (.str ⟨#[c]⟩ tb)) (fun it s₂ => codeAny (MM w) A (.forLoop (.Name x px) it body orelse env) R s₂) E s := by
  refine wpAny_pyIter_ascii (by simpa using hc) ?_
  have S1 := S.push (k := s.toks) { cls := .type "str_ascii_iterator", data := .fields #[.str ⟨#[c]⟩ tb, .int 0 0] }
  obtain ⟨S2, hI⟩ := S1.loosen
  refine S2.forB hx (Walks.strAscii (prog := prg) (w := w) S.hh s.heap.objs.size ⟨#[c]⟩ tb) (by simp) (fun b hb => .inl (by simpa using hb)) (fun k h st => let ⟨o, ho, _⟩ := st; ⟨o, ho⟩) hI ⟨_, S1.hd, rfl, rfl⟩
    (fun k J' m' news' => if k = 0 then J' = J ∧ m' = m ∧ news' = news else Inv J' m' news') Brk (by simp) (fun k v J' m' news' Fs' s' E' hk hP hle hinv S' => ?_) (fun J' m' news' s' E' hle hinv S => after J' m' news' s' E' hle (by simpa using hinv) S) brk
  obtain ⟨c', u, hc', rfl⟩ := hP
  have hk0 : k = 0 := by simp at hk; exact hk
  subst hk0
  simp only [if_true] at hinv
  obtain ⟨rfl, rfl, rfl⟩ := hinv
  have : c' = c := by simpa using hc'.symm
  subst this
  refine wpAny_mono (hbody u Fs' s' E' S') (fun f s'' hh => ?_) fun _ _ e => e
  rcases hh with ⟨hf, J'', m'', news'', h1, h2, h3⟩ | hh
  · exact .inl ⟨hf, J'', m'', news'', h1, by simpa using h2, h3⟩
  · exact .inr hh
/-- for over a range that leaves in its first turn, or has none -/
theorem Sit.forRange1 {x : Str} {px : Pos} {body orelse : List Stmt} {r : Addr} {a b c : Int} {t u v : Tok} {N : Nat} {R : Result → Shared → Prop} (S : Sit w n A env o₀ Fs J m news s) (hr : J r (rgO a b c t u v)) (hsm : Builtin.Range.small a b c = true) (hsz : Builtin.Range.rangeSize a b c = N)
    (hx : env.kindOf x = some .local) (Brk : Know → Loc → Led → Prop)
    (hbody : 0 < N → ∀ t Fs' s' E', Sit w n A env o₀ Fs' J (upd m x (.int a t)) news s' →
      wpAny (MM w) A (execs body env) (fun f s'' => f = .brk ∧ ∃ J'' m'' news'', J.le J'' ∧ Brk J'' m'' news'' ∧ Sit w n A env o₀ Fs' J'' m'' news'' s'') E' s')
    (after : N = 0 → ∀ s' E', Sit w n A env o₀ Fs J m news s' → wpAny (MM w) A (execs orelse env) (fun f s₃ => R (.ok f) s₃) E' s')
    (brk : ∀ J' m' news' s', J.le J' → Brk J' m' news' → Sit w n A env o₀ Fs J' m' news' s' → R (.ok .next) s') :
    wpAny (MM w) A (pyIter (.ref r)) (fun it s₂ => codeAny (MM w) A (.forLoop (.Name x px) it body orelse env) R s₂) E s := by
  refine wpAny_pyIter_range (S.get hr) hsm ?_
  rw [hsz]
  have S1 := S.push (k := s.toks) { cls := .type "range_iterator", data := .fields #[rawInt a, rawInt N, rawInt c] }
  obtain ⟨S2, hI⟩ := S1.loosen
  refine S2.forB hx (Walks.range (prog := prg) (w := w) (A := A) S.hh s.heap.objs.size a c N) (by simp) (fun b hb => .inl (by simpa using hb)) (fun k h st => ⟨_, st⟩) hI ?_
    (fun k J' m' news' => k = 0 ∧ J' = J ∧ m' = m ∧ news' = news) Brk ⟨rfl, rfl, rfl, rfl⟩ (fun k v J' m' news' Fs' s' E' hk hP hle hinv S' => ?_) (fun J' m' news' s' E' hle hinv S' => ?_) brk
  · have := S1.hd
    show (s.heap.push _).get? _ = some _
    simpa using this
  · obtain ⟨rfl, rfl, rfl, rfl⟩ := hinv
    obtain ⟨t, rfl⟩ := hP
    have e : a + ((0 : Nat) : Int) * c = a := by simp
    rw [e] at S'
    exact wpAny_mono (hbody hk t Fs' s' E' S') (fun f s'' hh => .inr hh) fun _ _ e => e
  · obtain ⟨hN, rfl, rfl, rfl⟩ := hinv
    exact after hN s' E' S'
end
-- text FG
section
variable {w : World} {n : Nat} {A : Around} {env : Env} {o₀ : OsState} {Fs J : Know} {m : Loc} {news : Led} {s : Shared} {E : Value → Shared → Prop}
theorem perm_in {α : Type} (l : List α) (a b : α) (r : List α) : (b :: (l ++ a :: r)).Perm (l ++ a :: b :: r) := by
  have := (List.perm_middle (l₁ := l ++ [a]) (a := b) (l₂ := r)).symm
  simpa using this
structure FmS where
  lines : List Str
  ps : List (Str × Str)
  i0 : Int
noncomputable def blnk : Str := Str.ofString " "
noncomputable def fmStep (W : Int) (st : FmS) (f p : Str) : FmS :=
  if W < st.i0 + lenOf (st.ps ++ [(f, p)]) then
    if st.ps = [] then
      if 0 < st.i0 then ⟨st.lines ++ [txtP [(txtE, txtE)]], [(if f = txtE then blnk else f, p)], 0⟩ else ⟨st.lines, [(f, p)], st.i0⟩
    else ⟨st.lines ++ [txtP st.ps], [(f, p)], 0⟩
  else ⟨st.lines, st.ps ++ [(f, p)], st.i0⟩
section
variable {F LL x : Addr} {W : Int} {v : FmV}
theorem Sit.accItemA {dx : Addr} {ps : List (Str × Str)} {i0 : Int} {led : Led} {value slice : Expr} {k : Int} {t : Tok} {f p : Str} {Q : Value → Shared → Prop} (S : Sit w n A env o₀ Fs J m (led ++ news) s) (hA : AccAt w J x dx ps i0 led) (h0 : 0 ≤ k) (hf : k < 2 ^ 63) (hv : ps[k.toNat]? = some (f, p))
    (h : ∀ a t u, J a (tO [.str f t, .str p u]) → Q (.ref a) s)
    (hs : subscripted slice false (.ref x) (.int k t) = operate [.ref x, .int k t] (getItem (.ref x) (.int k t)) := by with_unfolding_all rfl) :
    wpAny (MM w) A (subscriptTail value slice (.ref x) (.int k t)) Q E s := by
  obtain ⟨vs, e, tk, tv, kk, o1, o2, rfl, hp, ht1, ht2⟩ := hA
  obtain ⟨a, t', u', e1, e2⟩ := hp.2 _ f p hv
  exact accItem S (S.getN (a := x) (o := aO vs e dx) (by simp)) h0 hf e1 (h a t' u' e2) hs
theorem Sit.accIniA {dx : Addr} {ps : List (Str × Str)} {i0 : Int} {led : Led} {expr : Bool} {Q : Value → Shared → Prop} (S : Sit w n A env o₀ Fs J m (led ++ news) s) (hA : AccAt w J x dx ps i0 led) (h : ∀ tv s', Sit w n A env o₀ Fs J m (led ++ news) s' → Q (.int i0 tv) s') :
    wpAny (MM w) A (getAttr (.ref x) iniK expr) Q E s := by
  obtain ⟨vs, e, tk, tv, kk, o1, o2, rfl, hp, ht1, ht2⟩ := hA
  exact S.accIni (vs := vs) (e := e) (dx := dx) (tk := tk) (tv := tv) (i0 := i0) (k := kk) (by simp) (by simp) (h _ _ (S.toks _))
theorem append_spec {dx : Addr} {ps : List (Str × Str)} {f p : Str} {t u : Tok} {i0 : Int} {led : Led} {lvs : List Value} {le : Nat} {lines : List Str} {Q : Value → Shared → Prop} (S : Sit w (n + 7) A env o₀ Fs J m (led ++ (LL, lO lvs le) :: news) s) (hF : FmIn w J F LL x W v) (hA : AccAt w J x dx ps i0 led)
    (hL : StrsAre lvs lines) (hi : 0 ≤ i0 ∧ i0 ≤ 1000) (hz : ps.length ≤ 300) (hln : lines.length ≤ 900) (hlen : lenOf (ps ++ [(f, p)]) ≤ 100000) (hf : f = txtE ∨ f = blnk) (hps : ps ≠ [] → f = blnk)
    (h : ∀ J' led' lvs' le' s', J.le J' → AccAt w J' x dx (fmStep W ⟨lines, ps, i0⟩ f p).ps (fmStep W ⟨lines, ps, i0⟩ f p).i0 led' → StrsAre lvs' (fmStep W ⟨lines, ps, i0⟩ f p).lines → Sit w (n + 7) A env o₀ Fs J' m (led' ++ (LL, lO lvs' le') :: news) s' → Q .none s') :
    wpAny (MM w) A (call (.ref 91) [.ref F, .str f t, .str p u]) Q E s := by
  ktr_call 91 [(Str.ofString "self", .ref F), (Str.ofString "fws", .str f t), (Str.ofString "string", .str p u)]
  repeat kc_bool
  refine S.fmCur hF fun s S => ?_
  refine S.accMA hA (by k_is) (by k_is) (by decide) (by decide) ?_
  repeat kc_bool
  refine push_spec S hA (by omega) fun J1 led s hle1 hA S => ?_
  have hF := hF.mono hle1
  dsimp only
  repeat kc_bool
  refine S.fmCur hF fun s S => ?_
  repeat kc_bool
  refine S.accLenC hA hi hlen fun t1 led s hA S => ?_
  repeat kc_bool
  refine S.fmMax hF fun s S => ?_
  repeat kc_bool
  by_cases hW : W < i0 + lenOf (ps ++ [(f, p)])
  · rw [if_pos (by simpa using hW)]
    refine wpAny_execs_cons (wpAny_For ?_)
    repeat kc_bool
    refine S.fmSplit hF fun s S => ?_
    have e32 : Str.ofString " " = (⟨#[32]⟩ : Str) := rfl
    rw [e32]
    refine S.forOne (by decide) (kind_of hsc rfl) (fun J' m' news' => ps = [] ∧ m' (Str.ofString "self") = some (.ref F) ∧ ∃ led', AccAt w J' x dx (ps ++ [(f, p)]) i0 led' ∧ news' = led' ++ (LL, lO lvs le) :: news)
      (fun J' m' news' => ps ≠ [] ∧ m' (Str.ofString "self") = some (.ref F) ∧ (∃ ti, m' (Str.ofString "i") = some (.int (ps.length : Nat) ti)) ∧ ∃ led', AccAt w J' x dx (ps ++ [(f, p)]) i0 led' ∧ news' = led' ++ (LL, lO lvs le) :: news) ?_ ?_ ?_
    · intro tc Fs2 s E S
      refine wpAny_execs_cons (wpAny_For ?_)
      repeat kc_bool
      refine S.fmCur hF fun s S => ?_
      refine S.accMA hA (by k_is) (by k_is) (by decide) (by decide) ?_
      repeat kc_bool
      refine part_count_spec S hA fun t2 s S => ?_
      repeat kc_bool
      refine S.neg ?_
      intro t3 s S
      repeat kc_bool
      refine S.range3 (by decide) (PyProof.noPylong_small (by decide)) ?_
      intro r J2 s hle2 hr S
      have hF := hF.mono hle2
      have hA := hA.mono hle2
      refine S.forRange1 (N := ps.length) hr ?_ ?_ (kind_of hsc rfl) (fun J' m' news' => ps ≠ [] ∧ m' (Str.ofString "self") = some (.ref F) ∧ (∃ ti, m' (Str.ofString "i") = some (.int (ps.length : Nat) ti)) ∧ ∃ led', AccAt w J' x dx (ps ++ [(f, p)]) i0 led' ∧ news' = led' ++ (LL, lO lvs le) :: news) ?_ ?_ ?_
      · exact small_range (by simp; omega) (by omega) (.inr rfl)
      · unfold Builtin.Range.rangeSize
        have ea : ((ps ++ [(f, p)]).length : Int) - 1 = ps.length := by simp
        rw [if_neg (by decide), ea, show (- (-1 : Int)) = 1 from rfl]
        split <;> omega
      · intro hN ti Fs3 s E S
        repeat kc_bool
        with_reducible refine GM.isspace ?_
        repeat kc_bool
        refine SC.isspace ?_
        repeat kc_bool
        rw [if_pos (by decide +kernel)]
        repeat kc_bool
        refine S.fmCur hF fun s S => ?_
        repeat kc_bool
        have ea : ((ps ++ [(f, p)]).length : Int) - 1 = ps.length := by simp
        have hpne : ps ≠ [] := by intro q; rw [q] at hN; simp at hN
        have hfb := hps hpne
        subst hfb
        refine S.accItemA hA (f := blnk) (p := p) (by omega) (by simp; omega) (by rw [ea]; simp) fun a t' u' ha => ?_
        repeat kc_bool
        refine item_tupleT (l := [.str blnk t', .str p u']) (j := 0) ⟨_, S.get ha, rfl, 0, rfl⟩ (by decide) (by decide) rfl rfl ?_
        repeat kc_bool
        refine P.truthy_str (by decide) ?_
        have S := S.toks (s.toks + 1 + 1)
        generalize ({ s with toks := s.toks + 1 + 1 } : Shared) = s at S ⊢
        rw [if_pos (by decide)]
        repeat kc_bool
        refine S.sItem (by decide) (by decide) (by decide) ?_ rfl (fun _ => rfl)
        intro t4 s S
        repeat kc_bool
        refine eq_str ?_
        repeat kc_bool
        rw [if_pos (by decide)]
        repeat kc_bool
        exact ⟨rfl, _, _, _, .refl _, ⟨hpne, rfl, ⟨ti, by rw [← ea]; rfl⟩, _, hA, rfl⟩, S⟩
      · intro hN s E S
        repeat kc_bool
        exact .inl ⟨.inr rfl, _, _, _, hle2, ⟨List.eq_nil_of_length_eq_zero hN, rfl, _, hA, rfl⟩, S⟩
      · intro J' m' news' s hle hb S
        dsimp only
        repeat kc_bool
        exact .inr ⟨rfl, _, _, _, hle2.trans hle, hb, S⟩
    · intro J' m' news' s E hle hinv S
      obtain ⟨rfl, hself, led, hA, rfl⟩ := hinv
      have hF := hF.mono hle
      have hlez := lenOf_nonneg [(f, p)]
      repeat kc_bool
      refine Assign_Tuple ?_ (by with_unfolding_all rfl) (by unfold swappedStores Env.blockKind Env.kindOf; rw [hsc]; first | done | rfl)
      repeat kc_bool
      refine S.fmCur hF fun s S => ?_
      refine S.accMA hA (by k_is) (by k_is) (by decide) (by decide) ?_
      repeat kc_bool
      refine pop_spec (ps := []) S hA (by simp) fun a t2 u2 led s ha hA S => ?_
      refine S.assignT ha rfl rfl ?_
      intro s S
      simp only [eachN, each0, List.map_cons, List.map_nil]
      repeat kc_bool
      refine Attribute_any_ ?_
      repeat kc_bool
      refine S.fmCur hF fun s S => ?_
      refine S.accIniA hA fun tv s S => ?_
      repeat kc_bool
      have e1 : fmStep W ⟨lines, [], i0⟩ f p = if 0 < i0 then ⟨lines ++ [txtP [(txtE, txtE)]], [(if f = txtE then blnk else f, p)], 0⟩ else ⟨lines, [(f, p)], i0⟩ := by
        unfold fmStep
        dsimp only
        rw [if_pos hW, if_pos rfl]
      by_cases hi0 : 0 < i0
      · rw [if_pos (by simpa using hi0)]
        rw [e1, if_pos hi0] at h
        repeat kc_bool
        refine S.fmMeth hF (by k_is) (by k_is) (fun _ => rfl) ?_
        repeat kc_bool
        have hpos0 : 0 < i0 + lenOf ([] ++ [(txtE, txtE)]) := by
          have : lenOf ([] ++ [(txtE, txtE)]) = 0 := by decide
          omega
        refine newline_spec (ps := []) (ps' := []) (f := txtE) (p := txtE) S hF hA hL hi (by simp) (by omega) (.inr ⟨rfl, rfl, rfl, rfl⟩) (by decide) (by decide) hpos0 (.inl (by omega)) fun J3 led lvs le s hle3 hA3 hL3 S => ?_
        have hF := hF.mono hle3
        repeat kc_bool
        refine P.truthy_str (by rcases hf with rfl | rfl <;> decide) ?_
        have S := S.toks (s.toks + 1 + 1)
        generalize ({ s with toks := s.toks + 1 + 1 } : Shared) = s at S ⊢
        rcases hf with rfl | rfl
        · rw [if_pos (by decide)]
          repeat kc_bool
          refine S.fmCur hF fun s S => ?_
          refine S.accMA hA3 (by k_is) (by k_is) (by decide) (by decide) ?_
          repeat kc_bool
          refine push_spec S hA3 (by simp) fun J4 led s hle4 hA S => ?_
          dsimp only
          repeat kc_bool
          rw [if_pos rfl] at h
          exact ⟨_, _, _, S, fun S => h _ _ _ _ _ (((hle1.trans hle).trans hle3).trans hle4) hA hL3 S⟩
        · rw [if_neg (by decide)]
          repeat kc_bool
          refine S.fmCur hF fun s S => ?_
          refine S.accMA hA3 (by k_is) (by k_is) (by decide) (by decide) ?_
          repeat kc_bool
          refine push_spec S hA3 (by simp) fun J4 led s hle4 hA S => ?_
          dsimp only
          repeat kc_bool
          rw [if_neg (by decide)] at h
          exact ⟨_, _, _, S, fun S => h _ _ _ _ _ (((hle1.trans hle).trans hle3).trans hle4) hA hL3 S⟩
      · rw [if_neg (by simpa using hi0)]
        rw [e1, if_neg hi0] at h
        repeat kc_bool
        refine S.fmCur hF fun s S => ?_
        refine S.accMA hA (by k_is) (by k_is) (by decide) (by decide) ?_
        repeat kc_bool
        refine push_spec S hA (by simp) fun J4 led s hle4 hA S => ?_
        dsimp only
        repeat kc_bool
        exact ⟨_, _, _, S, fun S => h _ _ _ _ _ ((hle1.trans hle).trans hle4) hA hL S⟩
    · intro J' m' news' s hle hb S
      obtain ⟨hpne, hself, ⟨ti, hm⟩, led, hA, rfl⟩ := hb
      have hF := hF.mono hle
      dsimp only
      repeat kc_bool
      refine S.fmCur hF fun s S => ?_
      refine S.accMA hA (by k_is) (by k_is) (by decide) (by decide) ?_
      repeat kc_bool
      refine pop_from_spec S hA (by simp; omega) (by simp) fun l us led s hus hA S => ?_
      have e2 : (ps ++ [(f, p)]).take ps.length = ps := by simp
      have e3 : (ps ++ [(f, p)]).drop ps.length = [(f, p)] := by simp
      rw [e2] at hA
      rw [e3] at hus
      have hlp : lenOf ps ≤ 100000 := by
        have := lenOf_snoc ps (f, p)
        rw [this] at hlen
        have h1 : (0 : Int) ≤ ((f, p) : Str × Str).1.length := Int.natCast_nonneg _
        have h2 : (0 : Int) ≤ ((f, p) : Str × Str).2.length := Int.natCast_nonneg _
        omega
      repeat kc_bool
      refine S.fmLines hF fun s S => ?_
      have hLL := S.getN (a := LL) (o := lO lvs le) (by simp)
      with_reducible refine mList hLL PySem.F.slot_list_append PySem.F.type_list_append ?_
      repeat kc_bool
      refine S.fmCur hF fun s S => ?_
      repeat kc_bool
      refine S.accStr hA (by omega) hlp fun t2 led s hA S => ?_
      repeat kc_bool
      have S := S.perm (perm_in led (l, lO us 0) (LL, lO lvs le) news)
      refine S.append (by rw [hL.length, sizeLine_eq]; omega) fun s S => ?_
      dsimp only
      have S := S.perm (perm_in led (l, lO us 0) (LL, lO (lvs ++ [.str (txtP ps) t2]) (le + 1)) news).symm
      repeat kc_bool
      refine S.fmCur hF fun s S => ?_
      refine S.accMA hA (by k_is) (by k_is) (by decide) (by decide) ?_
      repeat kc_bool
      refine reset1_spec S hA hus (by omega) (by simp) fun led s hA S => ?_
      dsimp only
      repeat kc_bool
      have e4 : fmStep W ⟨lines, ps, i0⟩ f p = ⟨lines ++ [txtP ps], [(f, p)], 0⟩ := by
        unfold fmStep
        dsimp only
        rw [if_pos hW, if_neg hpne]
      rw [e4] at h
      exact ⟨_, _, _, S, fun S => h _ _ _ _ _ (hle1.trans hle) hA (strs_snoc hL) S⟩
  · rw [if_neg (by simpa using hW)]
    repeat kc_bool
    have e : fmStep W ⟨lines, ps, i0⟩ f p = ⟨lines, ps ++ [(f, p)], i0⟩ := by unfold fmStep; rw [if_neg hW]
    rw [e] at h
    exact ⟨_, _, _, S, fun S => h _ _ _ _ _ hle1 hA hL S⟩
end
end
-- text FH
section
variable {w : World} {n : Nat} {A : Around} {env : Env} {o₀ : OsState} {Fs J : Know} {m : Loc} {news : Led} {s : Shared} {E : Value → Shared → Prop}
section
variable {F LL x : Addr} {W : Int} {v : FmV}
theorem fstr_spec {dx : Addr} {ps ps' : List (Str × Str)} {f p sep : Str} {ts : Tok} {i0 : Int} {led : Led} {lvs : List Value} {le : Nat} {lines : List Str} {Q : Value → Shared → Prop} (S : Sit w (n + 7) A env o₀ Fs J m (led ++ (LL, lO lvs le) :: news) s) (hF : FmIn w J F LL x W v) (hA : AccAt w J x dx ps i0 led)
    (hL : StrsAre lvs lines) (hi : 0 ≤ i0 ∧ i0 ≤ 1000) (hz : ps.length ≤ 400) (hln : lines.length ≤ 1000)
    (hg : ps = ps' ++ [(f, p)]) (hne : (f == Str.ofString " " && p == Str.ofString "") = false) (hlen : lenOf ps ≤ 100000) (hpos : 0 < lenOf ps)
    (hb : Txt.isspace (txtP ps) = false) (hjz : ((lines ++ [txtP ps]).map (·.length)).sum + (lines ++ [txtP ps]).length * sep.length ≤ 16777216)
    (h : ∀ t J' led' lvs' le' s', J.le J' → AccAt w J' x dx [] 0 led' → Sit w (n + 7) A env o₀ Fs J' m (led' ++ (LL, lO lvs' le') :: news) s' → Q (.str (Txt.join sep (lines ++ [txtP ps])) t) s') : wpAny (MM w) A (call (.ref 42) [.ref F, .str sep ts]) Q E s := by
  ktr_call 42 [(Str.ofString "self", .ref F), (Str.ofString "linesep", .str sep ts)]
  repeat kc_bool
  refine S.fmMeth hF (by k_is) (by k_is) (fun _ => rfl) ?_
  repeat kc_bool
  subst hg
  refine newline_spec S hF hA hL hi hz hln (.inl rfl) hne hlen (by omega) (.inr ⟨by omega, hb⟩) fun J3 led lvs le s hle3 hA hL S => ?_
  have hF := hF.mono hle3
  dsimp only
  repeat kc_bool
  with_reducible refine mStr PySem.F.slot_str_join PySem.F.type_str_join ?_
  repeat kc_bool
  refine S.fmLines hF fun s S => ?_
  repeat kc_bool
  refine S.sJoin (S.getN (a := LL) (o := lO lvs le) (by simp)) hL hjz fun t s S => ?_
  dsimp only
  exact ⟨_, _, _, S, fun S => h _ _ _ _ _ _ hle3 hA S⟩
theorem mro_fm : ∃ cd, clsIn (Mine.hd.heap_1 w.params) 94 = some cd ∧ cd.mro = [.ref 94, .type "object"] ∧ cd.hasDict = true := by
  refine' ⟨_, cls_of ?ho ?hd, ?m, ?h⟩
  case ho => k_is
  case hd => rfl
  case m => rfl
  case h => rfl
theorem Sit.fmSet {dF : Addr} {es : List DictEntry} {k : Nat} {name : Str} {r : Value} {Q : Unit → Shared → Prop} (S : Sit w n A env o₀ Fs J m ((dF, dictOf es k) :: news) s) (hF : (F, instObj 94 dF) ∈ news) (ha : findIn (Mine.hd.heap_1 w.params) (.ref 94) name = some none) (hl : (getL name es).isSome = true)
    (hz : ∀ tk, (putL name (PyData.keyHash w.params name) (.str name tk) r es).length ≤ 1000)
    (h : ∀ tk s', Sit w n A env o₀ Fs J m ((dF, dictOf (putL name (PyData.keyHash w.params name) (.str name tk) r es) (putN name es k)) :: news) s' → Q () s') : wpAny (MM w) A (setAttr (.ref F) name r) Q E s := by
  obtain ⟨cd, hC, hmro, hhd⟩ := mro_fm (w := w)
  exact S.setDict (x := F) (C := 94) (S.getN (.tail _ hF)) rfl rfl rfl hC (by rw [hmro]; exact refuse_only _ rfl) hhd (by k_is) (by k_is) ha hl (hz 0) hz h
/-- the making of a formatter -/
theorem makeFm_spec {hd W : Int} {t1 t2 t3 t4 : Tok} {o1 o2 : Obj} {Q : Value → Shared → Prop} (S : Sit w (n + 4) A env o₀ Fs J m ((140, o1) :: (147, o2) :: news) s) (h1 : TabO o1) (h2 : TabO o2)
    (h : ∀ F LL x dx v J' led' s', J.le J' → FmIn w J' F LL x W v → AccAt w J' x dx [] hd led' → Sit w (n + 4) A env o₀ Fs J' m (led' ++ (LL, lO [] 0) :: news) s' → Q (.ref F) s') :
    wpAny (MM w) A (call (.ref 94) [.int hd t1, .int W t2, .str (Str.ofString " ") t3, .str (Str.ofString " ") t4]) Q E s := by
  have S0 := S
  refine S.make (C := 94) (fI := 35) (by k_is) (by k_is) (by k_is) fun F dF s S _ => ?_
  generalize (A.under (.builtin "type.__call__" ⟨.ref 94 :: [.int hd t1, .int W t2, .str (Str.ofString " ") t3, .str (Str.ofString " ") t4], []⟩)) = A1 at S ⊢
  refine' Sit.defcode (f := 35) (binds := [(Str.ofString "self", .ref F), (Str.ofString "headerlen", .int hd t1), (Str.ofString "maxlen", .int W t2), (Str.ofString "continuation_ws", .str (Str.ofString " ") t3), (Str.ofString "splitchars", .str (Str.ofString " ") t4)]) S ?ho ?hd ?hb ?hc ?hbi ?hce ?hlo ?hgl ?hbl ?hco ?hge ?hk ?_
  case ho => k_is
  case hd => rfl
  case hb => rfl
  case hc => k_is
  case hbi => exact BindsTo.of_eq rfl
  case hce => decide
  case hlo => exact locs rfl
  case hgl => rfl
  case hbl => rfl
  case hco => rfl
  case hge => rfl
  case hk => rfl
  intro env s E Fs' hsc hce hcd hql hfr S
  dsimp only at hsc hce hcd hql
  repeat kc_bool
  refine plainObj_wpAny_Assign_Attribute ?_
  repeat kc_bool
  have S := S.perm (news' := (dF, dictOf [] 0) :: (F, instObj 94 dF) :: (140, o1) :: (147, o2) :: news) (List.Perm.swap _ _ _)
  refine S.fmSet (.head _) (by k_is) rfl (fun _ => Nat.le_of_ble_eq_true rfl) fun k1 s S => ?_
  repeat kc_bool
  refine plainObj_wpAny_Assign_Attribute ?_
  repeat kc_bool
  refine S.fmSet (.head _) (by k_is) rfl (fun _ => Nat.le_of_ble_eq_true rfl) fun k2 s S => ?_
  repeat kc_bool
  refine plainObj_wpAny_Assign_Attribute ?_
  repeat kc_bool
  refine S.sLen (by decide) fun t5 s S => ?_
  repeat kc_bool
  refine S.fmSet (.head _) (by k_is) rfl (fun _ => Nat.le_of_ble_eq_true rfl) fun k3 s S => ?_
  repeat kc_bool
  refine plainObj_wpAny_Assign_Attribute ?_
  repeat kc_bool
  refine S.fmSet (.head _) (by k_is) rfl (fun _ => Nat.le_of_ble_eq_true rfl) fun k4 s S => ?_
  repeat kc_bool
  refine plainObj_wpAny_Assign_Attribute ?_
  repeat kc_bool
  refine S.newL (by rw [sizeLine_eq]; simp) ?_
  intro LL s S
  repeat kc_bool
  have S := S.perm (List.Perm.swap _ _ _)
  refine S.fmSet (.tail _ (.head _)) (by k_is) rfl (fun _ => Nat.le_of_ble_eq_true rfl) fun k5 s S => ?_
  repeat kc_bool
  refine plainObj_wpAny_Assign_Attribute ?_
  repeat kc_bool
  refine makeAcc_spec S ?_
  intro x dx e tk tv k s S
  repeat kc_bool
  have S := S.perm (List.perm_middle (l₁ := [_, _])).symm
  refine S.fmSet (.tail _ (.tail _ (.tail _ (.head _)))) (by k_is) rfl (fun _ => Nat.le_of_ble_eq_true rfl) fun k6 s S => ?_
  repeat kc_bool
  have S : Sit w (n + 2) (A1.deeper env) env o₀ Fs' J _ ((dF, dictOf (fmD w ⟨k1, k2, k3, k4, k5, k6, t2, t3, t5, t4⟩ W LL x) _) :: (x, aO [] e dx) :: (dx, dictOf (szE w tk hd tv) k) :: (LL, lO [] 0) :: (F, instObj 94 dF) :: (140, o1) :: (147, o2) :: news) s := S
  refine S.keep1 fun Ja hlea hda S => ?_
  have S := S.perm (news' := (F, instObj 94 dF) :: (x, aO [] e dx) :: (dx, dictOf (szE w tk hd tv) k) :: (LL, lO [] 0) :: (140, o1) :: (147, o2) :: news) (List.perm_middle (l₁ := [_, _, _])).symm
  refine S.keep1 fun Jb hleb hdb S => ?_
  have S := S.perm (news' := (x, aO [] e dx) :: (dx, dictOf (szE w tk hd tv) k) :: (140, o1) :: (147, o2) :: (LL, lO [] 0) :: news) (List.Perm.cons _ (List.Perm.cons _ (List.perm_middle (l₁ := [_, _]))))
  refine ⟨_, _, _, S, fun S => ⟨rfl, ?_⟩⟩
  exact h F LL x dx _ _ [(x, aO [] e dx), (dx, dictOf (szE w tk hd tv) k), (140, o1), (147, o2)] _ (hlea.trans hleb) ⟨_, _, hdb, hleb _ _ hda⟩ ⟨_, _, _, _, _, _, _, rfl, .nil, h1, h2⟩ (S.around S0)
end
end
-- text SO1
section
variable {w : World} {n : Nat} {A : Around} {env : Env} {o₀ : OsState} {Fs J : Know} {m : Loc} {news : Led} {s : Shared} {E : Value → Shared → Prop}
/-! the pure sort -/
open PySem.W in
noncomputable def kOk {α : Type} (lt : Nat → Nat → Bool) (N : Nat) : KasT α → (α → Prop) → Prop
  | .ret a, P => P a
  | .ask i j k, P => i < N ∧ j < N ∧ kOk lt N (k (lt i j)) P
section
variable {lt : Nat → Nat → Bool} {N : Nat}
theorem kOk_mono {α : Type} {P P' : α → Prop} (h : ∀ a, P a → P' a) : ∀ (t : KasT α), kOk lt N t P → kOk lt N t P'
  | .ret a, x => h a x
  | .ask i j k, x => ⟨x.1, x.2.1, kOk_mono h _ x.2.2⟩
theorem kOk_bind {α β : Type} {f : α → KasT β} {P : β → Prop} : ∀ (t : KasT α), kOk lt N t (fun a => kOk lt N (f a) P) → kOk lt N (t.bind f) P
  | .ret a, x => x
  | .ask i j k, x => ⟨x.1, x.2.1, kOk_bind _ x.2.2⟩
theorem kOk_wp {α : Type} {cmp : Nat → Nat → (Bool → Shared → Prop) → Shared → Prop} {Q : α → Shared → Prop} {s : Shared} (hc : ∀ i j C, i < N → j < N → C (lt i j) s → cmp i j C s) : ∀ (t : KasT α), kOk lt N t (fun a => Q a s) → t.kasWp cmp Q s
  | .ret a, x => x
  | .ask i j k, x => hc i j _ x.1 x.2.1 (kOk_wp hc _ x.2.2)
end
noncomputable def gd (p : Array Nat) (k : Nat) : Nat := p.getD k 0
theorem gd_eq (p : Array Nat) (k : Nat) : gd p k = (p[k]?).getD 0 := by unfold gd; rw [Array.getD_eq_getD_getElem?]
theorem gd_rev {p : Array Nat} {i j : Nat} (hj : j ≤ p.size) (k : Nat) : gd (kas_rev p i j) k = if i ≤ k ∧ k < j then gd p (i + j - 1 - k) else gd p k := by
  rw [gd_eq, kas_rev, getElem?_mirror_all hj]
  split <;> rw [gd_eq]
theorem gd_bub {p : Array Nat} {src d : Nat} (hs : src < p.size) (hd : d ≤ src) (k : Nat) : gd (bubble p src d) k = if k = src - d then gd p src else if src - d < k ∧ k ≤ src then gd p (k - 1) else gd p k := by
  rw [gd_eq, getElem?_bubble hs d hd]
  repeat' split
  all_goals rw [gd_eq]
structure Pm (N : Nat) (p : Array Nat) : Prop where
  size : p.size = N
  perm : p.toList.Perm (List.range N)
theorem Pm.lt {N : Nat} {p : Array Nat} (h : Pm N p) (hN : 0 < N) (k : Nat) : gd p k < N := by
  rw [gd_eq]
  cases e : p[k]? with
  | none => exact hN
  | some x =>
    have hm : x ∈ p.toList := by
      have := Array.mem_of_getElem? e
      simpa using this
    exact List.mem_range.mp (h.perm.mem_iff.mp hm)
theorem Pm.rev {N : Nat} {p : Array Nat} (h : Pm N p) (i j : Nat) : Pm N (kas_rev p i j) := ⟨(kas_rev_size i j).trans h.size, (Array.perm_iff_toList_perm.mp (mirror_perm p i j _)).trans h.perm⟩
theorem Pm.bub {N : Nat} {p : Array Nat} (h : Pm N p) (i j : Nat) : Pm N (bubble p i j) := ⟨(bubble_size p i j).trans h.size, (Array.perm_iff_toList_perm.mp (bubble_perm p i j)).trans h.perm⟩
structure OrdB (lt : Nat → Nat → Bool) : Prop where
  asym : ∀ a b, lt a b = true → lt b a = false
  tr : ∀ a b c, lt b a = false → lt c b = false → lt c a = false
section
variable {lt : Nat → Nat → Bool} {N : Nat}
theorem OrdB.irr (O : OrdB lt) (a : Nat) : lt a a = false := by
  cases h : lt a a with
  | false => rfl
  | true => have := O.asym _ _ h; rw [h] at this; cases this
/-- sorted up to k -/
noncomputable def Up (lt : Nat → Nat → Bool) (p : Array Nat) (k : Nat) : Prop := ∀ i j, i < j → j < k → lt (gd p j) (gd p i) = false
noncomputable def Dn (lt : Nat → Nat → Bool) (p : Array Nat) (k : Nat) : Prop := ∀ i j, i < j → j < k → lt (gd p i) (gd p j) = false
theorem Up.snoc (O : OrdB lt) {p : Array Nat} {k : Nat} (h : Up lt p k) (hk : 1 ≤ k) (hx : lt (gd p k) (gd p (k - 1)) = false) : Up lt p (k + 1) := fun i j hij hj => by
  rcases Nat.lt_or_ge j k with hjk | hjk
  · exact h i j hij hjk
  · obtain rfl : j = k := by omega
    rcases Nat.lt_or_ge i (j - 1) with hi | hi
    · exact O.tr _ _ _ (h i (j - 1) hi (by omega)) hx
    · obtain rfl : i = j - 1 := by omega
      exact hx
theorem Dn.snoc (O : OrdB lt) {p : Array Nat} {k : Nat} (h : Dn lt p k) (hk : 1 ≤ k) (hx : lt (gd p (k - 1)) (gd p k) = false) : Dn lt p (k + 1) := fun i j hij hj => by
  rcases Nat.lt_or_ge j k with hjk | hjk
  · exact h i j hij hjk
  · obtain rfl : j = k := by omega
    rcases Nat.lt_or_ge i (j - 1) with hi | hi
    · exact O.tr _ _ _ hx (h i (j - 1) hi (by omega))
    · obtain rfl : i = j - 1 := by omega
      exact hx
theorem asc_ok (O : OrdB lt) (hN : 0 < N) {p : Array Nat} (hp : Pm N p) {P : Nat → Prop} : ∀ (f n : Nat), 1 ≤ n → n + f ≤ N → Up lt p n → (∀ m, n ≤ m → m ≤ n + f → Up lt p m → (m = n + f ∨ lt (gd p m) (gd p (m - 1)) = true) → P m) → kOk lt N (kas_asc p f n) P
  | 0, n, _, _, hu, h => h n (Nat.le_refl _) (Nat.le_refl _) hu (.inl rfl)
  | f + 1, n, h1, hn, hu, h => by
    unfold kas_asc
    refine ⟨hp.lt hN n, hp.lt hN (n - 1), ?_⟩
    show kOk lt N (if lt (gd p n) (gd p (n - 1)) = true then .ret n else kas_asc p f (n + 1)) P
    by_cases hc : lt (gd p n) (gd p (n - 1)) = true
    · rw [if_pos hc]
      exact h n (Nat.le_refl _) (by omega) hu (.inr hc)
    · rw [if_neg hc]
      exact asc_ok O hN hp f (n + 1) (by omega) (by omega) (hu.snoc O h1 (by simpa using hc)) fun m h2 h3 hm hw => h m (by omega) (by omega) hm (hw.imp (by omega) id)
/-- the last q + 1 of the first n are alike -/
noncomputable def Alike (lt : Nat → Nat → Bool) (p : Array Nat) (n q : Nat) : Prop := q + 1 ≤ n ∧ ∀ i j, n - (q + 1) ≤ i → i < n → n - (q + 1) ≤ j → j < n → lt (gd p i) (gd p j) = false
theorem Dn.alike {p : Array Nat} {n a : Nat} (hn : n ≤ p.size) (h : Dn lt p n) (ha : ∀ i j, a ≤ i → i < n → a ≤ j → j < n → lt (gd p i) (gd p j) = false) (O : OrdB lt) : Dn lt (kas_rev p a n) n := fun i j hij hj => by
  rw [gd_rev hn, gd_rev hn]
  split <;> split
  · exact ha _ _ (by omega) (by omega) (by omega) (by omega)
  · omega
  · rename_i h1 h2
    have hb := h i a (by omega) (by omega)
    exact O.tr _ _ _ (ha a _ (Nat.le_refl _) (by omega) (by omega) (by omega)) hb
  · exact h i j hij hj
theorem desc_ok (O : OrdB lt) (hN : 0 < N) {P : Array Nat × Nat × Nat → Prop} : ∀ (f : Nat) (p : Array Nat) (n q : Nat), Pm N p → 1 ≤ n → n + f ≤ N → Dn lt p n → Alike lt p n q →
    (∀ p' n' q', Pm N p' → 1 ≤ n' → n' ≤ N → Dn lt p' n' → Alike lt p' n' q' → P (p', n', q')) → kOk lt N (kas_desc f p n q) P
  | 0, p, n, q, hp, h1, hn, hd, ha, h => h p n q hp h1 (by omega) hd ha
  | f + 1, p, n, q, hp, h1, hn, hd, ha, h => by
    unfold kas_desc
    refine ⟨hp.lt hN n, hp.lt hN (n - 1), ?_⟩
    show kOk lt N (if lt (gd p n) (gd p (n - 1)) = true then (if q > 0 then kas_desc f (kas_rev p (n - (q + 1)) n) (n + 1) 0 else kas_desc f p (n + 1) 0)
      else .ask (p.getD (n - 1) 0) (p.getD n 0) fun d => if d = true then .ret (p, n, q) else kas_desc f p (n + 1) (q + 1)) P
    by_cases hc : lt (gd p n) (gd p (n - 1)) = true
    · rw [if_pos hc]
      have hx := O.asym _ _ hc
      split
      · have hpn : n ≤ p.size := by rw [hp.size]; omega
        have hdr : Dn lt (kas_rev p (n - (q + 1)) n) n := hd.alike hpn (fun i j a b c d => ha.2 i j a b c d) O
        have e1 : gd (kas_rev p (n - (q + 1)) n) n = gd p n := by rw [gd_rev hpn, if_neg (by omega)]
        have e2 : gd (kas_rev p (n - (q + 1)) n) (n - 1) = gd p (n - (q + 1)) := by
          rw [gd_rev hpn, if_pos (by omega)]
          congr 1
          have := ha.1
          omega
        have hx2 : lt (gd p (n - (q + 1))) (gd p n) = false := O.tr _ _ _ hx (ha.2 _ _ (by omega) (by have := ha.1; omega) (by omega) (by omega))
        exact desc_ok O hN f _ (n + 1) 0 (hp.rev _ _) (by omega) (by omega) (hdr.snoc O h1 (by rw [e1, e2]; exact hx2)) ⟨by omega, fun i j a b c d => by
          obtain rfl : i = n := by omega
          obtain rfl : j = i := by omega
          exact O.irr _⟩ h
      · exact desc_ok O hN f p (n + 1) 0 hp (by omega) (by omega) (hd.snoc O h1 hx) ⟨by omega, fun i j a b c d => by
          obtain rfl : i = n := by omega
          obtain rfl : j = i := by omega
          exact O.irr _⟩ h
    · rw [if_neg hc]
      have hc' : lt (gd p n) (gd p (n - 1)) = false := by simpa using hc
      refine ⟨hp.lt hN (n - 1), hp.lt hN n, ?_⟩
      show kOk lt N (if lt (gd p (n - 1)) (gd p n) = true then .ret (p, n, q) else kas_desc f p (n + 1) (q + 1)) P
      by_cases hd2 : lt (gd p (n - 1)) (gd p n) = true
      · rw [if_pos hd2]
        exact h p n q hp h1 (by omega) hd ha
      · rw [if_neg hd2]
        have hd2' : lt (gd p (n - 1)) (gd p n) = false := by simpa using hd2
        have hq := ha.1
        refine desc_ok O hN f p (n + 1) (q + 1) hp (by omega) (by omega) (hd.snoc O h1 hd2') ⟨by omega, fun i j a b c d => ?_⟩ h
        rcases Nat.lt_or_ge i n with hi | hi <;> rcases Nat.lt_or_ge j n with hj | hj
        · exact ha.2 i j (by omega) hi (by omega) hj
        · obtain rfl : j = n := by omega
          exact O.tr _ _ _ hd2' (ha.2 i (j - 1) (by omega) hi (by omega) (by omega))
        · obtain rfl : i = n := by omega
          exact O.tr _ _ _ (ha.2 (i - 1) j (by omega) (by omega) (by omega) hj) hc'
        · obtain rfl : i = n := by omega
          obtain rfl : j = i := by omega
          exact O.irr _
theorem Dn.rev {p : Array Nat} {n : Nat} (hn : n ≤ p.size) (h : Dn lt p n) : Up lt (kas_rev p 0 n) n := fun i j hij hj => by
  rw [gd_rev hn, gd_rev hn, if_pos (by omega), if_pos (by omega)]
  exact h _ _ (by omega) (by omega)
abbrev CountR (lt : Nat → Nat → Bool) (N : Nat) (r : Nat × Array Nat) : Prop := 1 ≤ r.1 ∧ r.1 ≤ N ∧ Pm N r.2 ∧ Up lt r.2 r.1
theorem tail3_ok (O : OrdB lt) (hN : 0 < N) {p : Array Nat} {n : Nat} (hp : Pm N p) (h1 : 1 ≤ n) (hn : n ≤ N) (hd : Dn lt p n) : kOk lt N (kas_tail3 n N p) (CountR lt N) := by
  unfold kas_tail3
  refine kOk_bind _ (asc_ok O hN (hp.rev 0 n) _ n h1 (by omega) (hd.rev (by rw [hp.size]; exact hn)) fun m a b hm _ => ?_)
  exact ⟨by show 1 ≤ m; omega, by show m ≤ N; omega, hp.rev _ _, hm⟩
theorem descPart_ok (O : OrdB lt) (hN : 0 < N) {p : Array Nat} {n : Nat} (hp : Pm N p) (h1 : 1 ≤ n) (hn : n + 1 ≤ N) (hd : Dn lt p (n + 1)) : kOk lt N (kas_descPart n N p) (CountR lt N) := by
  unfold kas_descPart
  refine kOk_bind _ (desc_ok O hN _ p (n + 1) 0 hp (by omega) (by omega) hd ⟨by omega, fun i j a b c d => by
    obtain rfl : i = n := by omega
    obtain rfl : j = i := by omega
    exact O.irr _⟩ fun p' n' q' hp' h1' hn' hd' ha' => ?_)
  dsimp only
  split
  · exact tail3_ok O hN (hp'.rev _ _) h1' hn' (hd'.alike (by rw [hp'.size]; exact hn') (fun i j a b c d => ha'.2 i j a b c d) O)
  · exact tail3_ok O hN hp' h1' hn' hd'
theorem count_ok (O : OrdB lt) (hN : 0 < N) {p : Array Nat} (hp : Pm N p) : kOk lt N (kas_count N p) (CountR lt N) := by
  unfold kas_count
  refine kOk_bind _ (asc_ok O hN hp _ 1 (Nat.le_refl _) (by omega) (fun i j a b => by omega) fun n h1 h2 hu hw => ?_)
  split
  · exact ⟨h1, by omega, hp, hu⟩
  · rename_i hne
    have hne : n ≠ N := by simpa using hne
    have hlt : lt (gd p n) (gd p (n - 1)) = true := hw.resolve_left (by omega)
    have hx := O.asym _ _ hlt
    split
    · refine ⟨hp.lt hN 0, hp.lt hN (n - 1), ?_⟩
      show kOk lt N (if lt (gd p 0) (gd p (n - 1)) = true then .ret (n, p) else kas_descPart n N (kas_rev p 0 n)) _
      by_cases hc : lt (gd p 0) (gd p (n - 1)) = true
      · rw [if_pos hc]
        exact ⟨h1, by omega, hp, hu⟩
      · rw [if_neg hc]
        have hc : lt (gd p 0) (gd p (n - 1)) = false := by simpa using hc
        have le0 : ∀ i, i < n → lt (gd p i) (gd p 0) = false := fun i hi => by
          rcases Nat.eq_zero_or_pos i with rfl | h
          · exact O.irr _
          · exact hu 0 i h hi
        have leN : ∀ j, j < n → lt (gd p (n - 1)) (gd p j) = false := fun j hj => by
          rcases Nat.lt_or_ge j (n - 1) with h | h
          · exact hu j (n - 1) h (by omega)
          · obtain rfl : j = n - 1 := by omega
            exact O.irr _
        have all : ∀ i j, 0 ≤ i → i < n → 0 ≤ j → j < n → lt (gd p i) (gd p j) = false := fun i j _ hi _ hj => O.tr _ _ _ (O.tr _ _ _ (leN j hj) hc) (le0 i hi)
        have hpn : n ≤ p.size := by rw [hp.size]; omega
        have hd : Dn lt p n := fun i j hij hj => all i j (Nat.zero_le _) (by omega) (Nat.zero_le _) hj
        refine descPart_ok O hN (hp.rev _ _) h1 (by omega) ((hd.alike hpn all O).snoc O h1 ?_)
        rw [gd_rev hpn, gd_rev hpn, if_pos (by omega), if_neg (by omega)]
        exact O.tr _ _ _ hx (all _ _ (Nat.zero_le _) (by omega) (Nat.zero_le _) (by omega))
    · obtain rfl : n = 1 := by omega
      refine descPart_ok O hN hp h1 (by omega) fun i j a b => ?_
      obtain rfl : i = 0 := by omega
      obtain rfl : j = 1 := by omega
      exact hx
theorem place_ok (O : OrdB lt) (hN : 0 < N) {p : Array Nat} {k : Nat} (hp : Pm N p) (hu : Up lt p k) {P : Nat → Prop}
    (h : ∀ l, l ≤ k → (∀ j, j < l → lt (gd p k) (gd p j) = false) → (∀ j, l ≤ j → j < k → lt (gd p j) (gd p k) = false) → P l) : ∀ (f l r : Nat), l ≤ r → r ≤ k → r - l ≤ f →
    (∀ j, j < l → lt (gd p k) (gd p j) = false) → (∀ j, r ≤ j → j < k → lt (gd p j) (gd p k) = false) → kOk lt N (kas_place p k f l r) P
  | 0, l, r, h1, h2, h3, ha, hb => h l (by omega) ha fun j hj => hb j (by omega)
  | f + 1, l, r, h1, h2, h3, ha, hb => by
    unfold kas_place
    split
    · exact h l (by omega) ha fun j hj => hb j (by omega)
    · refine ⟨hp.lt hN k, hp.lt hN _, ?_⟩
      show kOk lt N (if lt (gd p k) (gd p ((l + r) / 2)) = true then kas_place p k f l ((l + r) / 2) else kas_place p k f ((l + r) / 2 + 1) r) P
      by_cases hc : lt (gd p k) (gd p ((l + r) / 2)) = true
      · rw [if_pos hc]
        have hx := O.asym _ _ hc
        refine place_ok O hN hp hu h f l _ (by omega) (by omega) (by omega) ha fun j hj hk => ?_
        rcases Nat.eq_or_lt_of_le hj with rfl | hj
        · exact hx
        · exact O.tr _ _ _ hx (hu _ j hj hk)
      · rw [if_neg hc]
        have hc : lt (gd p k) (gd p ((l + r) / 2)) = false := by simpa using hc
        refine place_ok O hN hp hu h f _ r (by omega) h2 (by omega) (fun j hj => ?_) hb
        rcases Nat.lt_or_ge j ((l + r) / 2) with hj' | hj'
        · exact O.tr _ _ _ (hu j _ hj' (by omega)) hc
        · obtain rfl : j = (l + r) / 2 := by omega
          exact hc
theorem bin_ok (O : OrdB lt) (hN : 0 < N) {P : Array Nat → Prop} (h : ∀ p, Pm N p → Up lt p N → P p) : ∀ (f : Nat) (p : Array Nat) (k : Nat), Pm N p → 1 ≤ k → k + f = N → Up lt p k → kOk lt N (kas_bin f p k) P
  | 0, p, k, hp, _, hk, hu => h p hp (by rw [← hk]; exact hu)
  | f + 1, p, k, hp, h1, hk, hu => by
    unfold kas_bin
    refine kOk_bind _ (place_ok O hN hp hu (fun l hl ha hb => ?_) k 0 k (Nat.zero_le _) (Nat.le_refl _) (by omega) (fun j hj => by omega) fun j h1 h2 => by omega)
    refine bin_ok O hN h f _ (k + 1) (hp.bub _ _) (by omega) (by omega) fun i j hij hj => ?_
    have hks : k < p.size := by rw [hp.size]; omega
    rw [gd_bub hks (by omega), gd_bub hks (by omega)]
    have e : k - (k - l) = l := by omega
    rw [e]
    repeat' split
    all_goals first
      | omega
      | exact ha _ (by omega)
      | exact hb _ (by omega) (by omega)
      | exact hu _ _ (by omega) (by omega)
theorem sort_ok (O : OrdB lt) (hN : 0 < N) : kOk lt N (kas_sort N) fun p => Pm N p ∧ Up lt p N := by
  unfold kas_sort
  have hp : Pm N (List.toArray (List.range N)) := ⟨by simp, by simp⟩
  refine kOk_bind _ (kOk_mono (fun r hr => ?_) _ (count_ok O hN hp))
  obtain ⟨h1, h2, h3, h4⟩ := hr
  split
  · have e : max r.1 1 = r.1 := by omega
    rw [e]
    exact bin_ok O hN (fun p a b => ⟨a, b⟩) _ _ _ h3 h1 (by omega) h4
  · have e : r.1 = N := by omega
    exact ⟨h3, by rw [← e]; exact h4⟩
end
end
-- text SO2
section
variable {w : World} {n : Nat} {A : Around} {env : Env} {o₀ : OsState} {Fs J : Know} {m : Loc} {news : Led} {s : Shared} {E : Value → Shared → Prop}
section
variable {lt : Nat → Nat → Bool} {KP : Know → Nat → Value → Prop} {vs : List Value} {q : Addr}
/-- the keys, one by one -/
theorem Sit.keyFold {kS : Addr} {rest : Led} (hKP : ∀ J J' i k, Know.le J J' → KP J i k → KP J' i k) {J₀ : Know} {body : Value → PUnit → Sem (ForInStep PUnit)} {R : PUnit → Shared → Prop}
    (hbody : ∀ i v J' ks e s', vs[i]? = some v → J₀.le J' → ks.length < 64 → Sit w n A env o₀ Fs J' m ((kS, lO ks e) :: rest) s' →
      wpAny (MM w) A (body v ⟨⟩) (fun r s'' => r = .yield ⟨⟩ ∧ ∃ J'' k e', J'.le J'' ∧ KP J'' i k ∧ Sit w n A env o₀ Fs J'' m ((kS, lO (ks ++ [k]) e') :: rest) s'') E s')
    (hR : ∀ J' ks e s', J₀.le J' → ks.length = vs.length → (∀ i, i < vs.length → KP J' i (ks.getD i .none)) → Sit w n A env o₀ Fs J' m ((kS, lO ks e) :: rest) s' → R ⟨⟩ s') (h64 : vs.length < 64) :
    ∀ (r : List Value) (i : Nat) (J' : Know) (ks : List Value) (e : Nat) (s' : Shared), vs.drop i = r → ks.length = i → i ≤ vs.length → J₀.le J' → (∀ j, j < i → KP J' j (ks.getD j .none)) → Sit w n A env o₀ Fs J' m ((kS, lO ks e) :: rest) s' →
      wpAny (MM w) A (forIn r PUnit.unit body) R E s'
  | [], i, J', ks, e, s', hr, hk, hi, hle, hK, S => by
    rw [List.forIn_nil]
    have : i = vs.length := by
      have := congrArg List.length hr
      simp at this
      omega
    subst this
    exact wpAny_pure (hR J' ks e s' hle hk hK S)
  | v :: r, i, J', ks, e, s', hr, hk, hi, hle, hK, S => by
    have hlt : i < vs.length := by
      have := congrArg List.length hr
      simp at this
      omega
    have hv : vs[i]? = some v := by
      have := congrArg (fun l => l[0]?) hr
      simpa using this
    rw [List.forIn_cons]
    refine wpAny_bind (wpAny_mono (hbody i v J' ks e s' hv hle (by omega) S) (fun x s'' hx => ?_) fun _ _ z => z)
    obtain ⟨rfl, J'', k, e', hle', hk', S'⟩ := hx
    refine Sit.keyFold hKP hbody hR h64 r (i + 1) J'' (ks ++ [k]) e' s'' ?_ (by simp [hk]) (by omega) (hle.trans hle') (fun j hj => ?_) S'
    · have : vs.drop (i + 1) = (vs.drop i).drop 1 := by rw [List.drop_drop]
      rw [this, hr]; rfl
    · rcases Nat.lt_or_ge j i with h | h
      · have e : (ks ++ [k]).getD j .none = ks.getD j .none := by
          simp only [List.getD_eq_getElem?_getD]
          rw [List.getElem?_append_left (by omega)]
        rw [e]
        exact hKP _ _ _ _ hle' (hK j h)
      · obtain rfl : j = i := by omega
        have e : (ks ++ [k]).getD j .none = k := by
          simp only [List.getD_eq_getElem?_getD]
          rw [List.getElem?_append_right (by omega), hk]
          simp
        rw [e]
        exact hk'
theorem upd_list {a : Addr} {us : List Value} {e : Nat} {f : Array Value → Array Value} {us' : List Value} {Q : Unit → Shared → Prop} (S : Sit w n A env o₀ Fs J m ((a, lO us e) :: news) s) (hf : f us.toArray = us'.toArray) (hz : us.length ≤ 1000) (hz' : us'.length ≤ 1000)
    (h : ∀ e' s', Sit w n A env o₀ Fs J m ((a, lO us' e') :: news) s' → Q () s') {A' : Around} : wpAny (MM w) A' (Builtin.List.listUpdate (.ref a) f) Q E s := by
  have hx := S.hd
  unfold Builtin.List.listUpdate
  refine wpAny_updateSeq hx rfl (h (if ((f us.toArray).size == us.toArray.size) = true then e else e + 1) _ (S.turn (k := s.toks) (Heap.SameBut.update ..) ?_)) (by rw [sizeLine_eq]; simp; omega) (by rw [hf, sizeLine_eq]; simp; omega)
  rw [Heap.get?_update_self _ hx (by simp [Obj.mapSeq]; rfl)]
  simp [Obj.mapSeq, hf]
theorem Sit.sortTree {D : Addr} {e : Nat} {P : PySem.Fin → Shared → Prop} (O : OrdB lt) (S : Sit w n A env o₀ Fs J m ((D, lO vs e) :: news) s) (h2 : 2 ≤ vs.length) (h64 : vs.length < 64)
    (hKP : ∀ J J' i k, Know.le J J' → KP J i k → KP J' i k) (hty : ∀ J i k, KP J i k → ∃ a o, k = .ref a ∧ J a o ∧ o.cls = .type "list")
    (hkey : ∀ i v J' led s' E', vs[i]? = some v → J.le J' → Sit w n A env o₀ Fs J' m (led ++ news) s' → wpAny (MM w) A (PySem.call (.ref q) [v]) (fun k s'' => ∃ J'', J'.le J'' ∧ KP J'' i k ∧ Sit w n A env o₀ Fs J'' m (led ++ news) s'') E' s')
    (hcmp : ∀ J' ks led s' i j (C : Bool → Shared → Prop), J.le J' → ks.length = vs.length → (∀ i, i < vs.length → KP J' i (ks.getD i .none)) → Sit w n A env o₀ Fs J' m (led ++ news) s' → i < vs.length → j < vs.length → C (lt i j) s' → kas_ask prg w A oneType' ks i j C s')
    (h : ∀ p e' J' s', Pm vs.length p → Up lt p vs.length → J.le J' → Sit w n A env o₀ Fs J' m ((D, lO (p.toList.map fun i => vs.getD i .none) e') :: news) s' → P (.done (.ret .none)) s') :
    wpAny (MM w) A (ksk_tree D (.ref q) false) P E s := by
  unfold ksk_tree
  refine wpAny_bind (listItems_at S.hd rfl ?_)
  refine wpAny_bind (upd_list (us' := []) S rfl (by omega) (by simp) fun e1 s S => ?_)
  refine wpAny_bind (seqEpoch_at S.hd rfl ?_)
  refine wpAny_bind (wpAny_newTuple ?_ (by show vs.length ≤ _; rw [sizeLine_eq]; omega))
  have S := (S.push (k := s.toks) (tO vs)).drop
  generalize ({ s with heap := s.heap.push (tO vs), toks := s.toks } : Shared) = s' at S
  refine wpAny_bind (S.newL (by simp) fun kS s S => ?_)
  refine wpAny_holding ?_
  unfold ksk_rest
  refine wpAny_bind (wpAny_rule ?_)
  first
    | rw [List.forIn_toArray]
    | (rw [← Array.forIn_toList]; simp only [List.toList_toArray])
  refine wpAny_bind (Sit.keyFold (vs := vs) (J₀ := J) hKP (fun i v J' ks e s' hv hle hz S' => ?_) (fun J' ks e s' hle hlk hK S' => ?_) h64 vs 0 J [] 0 s (by simp) rfl (Nat.zero_le _) (.refl _) (fun j hj => by omega) S)
  · refine wpAny_bind (wpAny_attempt (wpAny_mono (hkey i v J' [(kS, lO ks e), (D, lO [] e1)] s' (fun _ _ => False) hv hle S') (fun k s'' hk => ?_) fun _ _ z => z.elim))
    obtain ⟨J'', hle', hk', S''⟩ := hk
    dsimp only
    have S2 : Sit w n A env o₀ Fs J'' m ((kS, lO ks e) :: (D, lO [] e1) :: news) s'' := S''
    refine wpAny_bind (upd_list (us' := ks ++ [k]) S2 (by simp) (by omega) (by simp; omega) fun e2 s3 S3 => ?_)
    exact wpAny_pure ⟨rfl, J'', k, e2, hle', hk', S3⟩
  · refine wpAny_bind (listItems_at S'.hd rfl ?_)
    have hn2 : ¬ vs.toArray.size < 2 := by rw [List.size_toArray]; omega
    unfold ksk_end
    simp only [Bool.false_eq_true, if_false]
    rw [if_neg hn2, if_neg hn2]
    refine wpAny_bind (kas_kind (T := .type "list") (by omega) (fun k hk => ?_) (by decide) (by decide) ?_)
    · obtain ⟨i, hi, rfl⟩ := List.mem_iff_getElem.mp hk
      have h1 := hK i (by omega)
      rw [List.getD_eq_getElem?_getD, List.getElem?_eq_getElem hi] at h1
      obtain ⟨a, o, e1, e2, e3⟩ := hty _ _ _ h1
      simp only [Option.getD_some] at e1
      rw [e1]
      have := (Looks.ld (M := MM w) (part := some headPart) (S'.get e2)).andThen (f := fun o => pure o.cls) (b := .type "list") (by rw [← e3]; exact .now)
      exact this
    · refine wpAny_bind (wpAny_mono (kat_run (E := E) (G := fun p s'' => s'' = s' ∧ Pm vs.length p ∧ Up lt p vs.length) (Q := fun st' s'' => s'' = s' ∧ ∃ p : Array Nat, arrOf st' = p.map (kas_item ((List.toArray ks).zip (List.toArray vs))) ∧ failedOf st' = none ∧ Pm vs.length p ∧ Up lt p vs.length)
        hlk h2 h64 (fun p st' s'' a1 a2 a3 a4 => ⟨a4.1, p, a2, a3, a4.2⟩) (kOk_wp (lt := lt) (N := vs.length) (fun i j C hi hj hC => hcmp J' ks [(kS, lO ks e), (D, lO [] e1)] s' i j C hle hlk hK S' hi hj hC) _ (kOk_mono (fun p hp => ⟨rfl, hp⟩) _ (sort_ok O (by omega))))) ?_ fun _ _ z => z)
      rintro ⟨⟨⟩, st'⟩ s'' ⟨rfl, p, har, hf, hp, hu⟩
      have hout := kat_snds hlk har
      unfold ksk_tail
      dsimp only
      simp only [Bool.false_eq_true, if_false]
      rw [hout]
      have hol : (p.toList.map fun i => vs.getD i Value.none).length = vs.length := by rw [List.length_map, Array.length_toList, hp.size]
      refine wpAny_bind (upd_list (us' := []) S' rfl (by omega) (by simp) fun e3 s3 S3 => ?_)
      refine wpAny_bind (wpAny_letGo ?_)
      have S4 := S3.perm (news' := (D, lO [] e1) :: (kS, lO [] e3) :: news) (List.Perm.swap _ _ _)
      refine wpAny_bind (seqEpoch_at S4.hd rfl ?_)
      refine wpAny_bind (upd_list (us' := p.toList.map fun i => vs.getD i Value.none) S4 rfl (by simp) (by omega) fun e5 s5 S5 => ?_)
      rw [hf]
      simp only [bne_self_eq_false, Bool.false_eq_true, if_false]
      exact wpAny_pure (h p e5 J' s5 hp hu hle (S5.perm (news' := (kS, lO [] e3) :: (D, lO (p.toList.map fun i => vs.getD i .none) e5) :: news) (List.Perm.swap _ _ _)).drop)
theorem Sit.sortedK {l : Addr} {e : Nat} {Q : Value → Shared → Prop} (O : OrdB lt) (S : Sit w (n + 2) A env o₀ Fs J m news s) (hl : J l (lO vs e)) (h2 : 2 ≤ vs.length) (h64 : vs.length < 64)
    (hKP : ∀ J J' i k, Know.le J J' → KP J i k → KP J' i k) (hty : ∀ J i k, KP J i k → ∃ a o, k = .ref a ∧ J a o ∧ o.cls = .type "list")
    (hkey : ∀ i v J' led s' E', vs[i]? = some v → J.le J' → Sit w n A.in1.in1 env o₀ Fs J' m (led ++ news) s' → wpAny (MM w) A.in1.in1 (PySem.call (.ref q) [v]) (fun k s'' => ∃ J'', J'.le J'' ∧ KP J'' i k ∧ Sit w n A.in1.in1 env o₀ Fs J'' m (led ++ news) s'') E' s')
    (hcmp : ∀ J' ks led s' i j (C : Bool → Shared → Prop), J.le J' → ks.length = vs.length → (∀ i, i < vs.length → KP J' i (ks.getD i .none)) → Sit w n A.in1.in1 env o₀ Fs J' m (led ++ news) s' → i < vs.length → j < vs.length → C (lt i j) s' → kas_ask prg w A.in1.in1 oneType' ks i j C s')
    (h : ∀ D p e' J' s', Pm vs.length p → Up lt p vs.length → J.le J' → Sit w (n + 2) A env o₀ Fs J' m ((D, lO (p.toList.map fun i => vs.getD i .none) e') :: news) s' → Q (.ref D) s') :
    wpAny (MM w) A (PySem.call (.builtin "sorted") [.ref l] [(Str.ofString "key", .ref q)]) Q E s := by
  have S0 := S
  refine call_function_entry_kw kind_sorted plain_sorted entry_sorted (ksk_s1 _ _) ?_
  unfold Builtin.«sorted»
  refine wpAny_bind (m := checkCount "sorted" 1 1 _) (wpAny_pure ?_)
  refine wpAny_bind (collect_list (vs := vs) ⟨_, S.get hl, rfl, e, rfl⟩ ?_ (by rw [sizeLine_eq]; omega))
  have keep : ∀ b o, s.heap.get? b = some o → ((s.heap.push (seqObj "list" #[] 0)).update s.heap.objs.size (Obj.mapSeq (· ++ vs.toArray))).get? b = some o := fun b o q => by
    have hlt : b < s.heap.objs.size := Heap.lt_size q
    rw [Heap.get?_update_ne _ _ _ _ (Nat.ne_of_lt hlt), Heap.get?_push_ne _ _ _ (Nat.ne_of_lt hlt)]
    exact q
  have S := S.keeps (k := s.toks) keep
  generalize ({ s with heap := (s.heap.push (seqObj "list" #[] 0)).update s.heap.objs.size (Obj.mapSeq (· ++ vs.toArray)), toks := s.toks } : Shared) = s' at S
  have S := S.in1
  refine wpAny_bind (S.newL (by rw [sizeLine_eq]; omega) fun D s S => ?_)
  refine wpAny_bind (wpAny_holding (wpAny_call_entry_kw slot_list_sort ⟨_, S.hd, rfl⟩ entry_list_sort ?_ (ksk_l1 _ _)))
  rw [ksk_t1]
  refine Sit.sortTree (n := n) O S.in1 h2 h64 hKP hty hkey hcmp fun p e' J' s' hp hu hle S' => ?_
  exact ⟨_, rfl, wpAny_pure ⟨_, rfl, h D p e' J' s' hp hu hle (S'.around S0)⟩⟩
end
end
-- text LM
section
variable {w : World} {n : Nat} {A : Around} {env : Env} {o₀ : OsState} {Fs J : Know} {m : Loc} {news : Led} {s : Shared} {E : Value → Shared → Prop}
theorem Sit.builtinsAt (S : Sit w n A env o₀ Fs J m news s) {P : Addr} {ps : Array Value} (hP : s.heap.get? P = some (tabObj ps)) : ∃ mg, s.heap.Ns mainGlobals mg ∧ mainGlobals ≠ P ∧ s.heap.BuiltinsAt mg P := by
  obtain ⟨p, loose, mean, mg, mb, T⟩ := S.T
  obtain ⟨bm, ob, b1, b2, b3, b4, b5, b6⟩ := T.bmain
  have hgP : mainGlobals ≠ P := fun q => by
    obtain ⟨o, es, ep, e, hd, _⟩ := T.g
    rw [q, hP] at e; cases e; cases hd
  have hbP : bm ≠ P := fun q => by
    rw [q, hP] at b3; cases b3; cases b4
  have hbG : bm ≠ mainGlobals := fun q => by
    obtain ⟨o, es, ep, e, hd, _⟩ := T.g
    rw [q, e] at b3; cases b3; rw [hd] at b6; cases b6
  exact ⟨mg, T.g, hgP, bm, ob, b1, b2, hbG, hbP, b3, b4, b5, b6⟩
/-- a lambda made -/
theorem Sit.makeLam {P c : Addr} {name qual : Str} {params : Arguments} {body : Expr} {scope : Scope} {clos : List (Str × Addr)} {pos : Pos} {firstLine : Nat} {Q : Value → Shared → Prop} (S : Sit w n A env o₀ Fs J m ((P, tabObj #[]) :: news) s)
    (hcd : env.code = .ref c) (hC : codeHdIn (Mine.hd.heap_1 w.params) c P = true) (hcl : closureFor scope env = pure clos)
    (h : ∀ f c' oc vs t pm ctv o' J' s', J.le J' → J' f (kla_obj name qual params body scope clos pm c' ctv) → J' c' oc → oc.data = .fields vs → vs[1]? = some (.str qual t) → TabO o' → Sit w n A env o₀ Fs J' m ((P, o') :: news) s' → Q (.ref f) s') :
    wpAny (MM w) A (makeFunction name qual params (.expr body) scope env [] [] [] pos firstLine) Q E s := by
  obtain ⟨mg, hg, hgP, hb⟩ := S.builtinsAt S.hd
  refine kla_makeFunction hcl S.hg hg hcd (codeHd_of_K S.X hC) S.hd trivial rfl hgP hb fun c' ctv h' tk hx hge hlt hrec htb => ?_
  obtain ⟨c₂, oc, vs, t, e2, hoc, hd, hv⟩ := hrec
  cases e2
  have fresh : ∀ b, s.heap.objs.size ≤ b → s.heap.get? b = none := fun b hb => Heap.get?_none_of_le hb
  have nd := List.nodup_cons.mp S.nd
  have hcP : c' ≠ P := fun q => by
    have h1 : P < s.heap.objs.size := Heap.lt_size S.hd
    rw [q] at hge
    exact Nat.lt_irrefl _ (Nat.lt_of_lt_of_le h1 hge)
  have hof : ∀ b o, s.heap.get? b = some o → b ≠ c' ∧ b ≠ h'.objs.size := fun b o e => by
    have h1 : b < s.heap.objs.size := Heap.lt_size e
    exact ⟨Nat.ne_of_lt (Nat.lt_of_lt_of_le h1 hge), Nat.ne_of_lt (Nat.lt_of_lt_of_le h1 (Nat.le_trans hge (Nat.le_of_lt hlt)))⟩
  have S2 : Sit w n A env o₀ Fs J m ((h'.objs.size, kla_obj name qual params body scope clos ((mg "__name__").getD .none) c' ctv) :: (c', oc) :: (P, tabObj (#[] ++ #[rawInt pos.line, rawInt pos.col, .ref c'])) :: news)
      { s with heap := h'.push (kla_obj name qual params body scope clos ((mg "__name__").getD .none) c' ctv), toks := tk } := by
    refine S.move (s' := { s with heap := h'.push (kla_obj name qual params body scope clos ((mg "__name__").getD .none) c' ctv), toks := tk }) ?_ (fun a o _ ha e => Heap.get?_push_of_some _ (hx a o (fun q => ha (by rw [q]; exact .head _)) e)) (fun p hp => ?_) (fun p hp => ?_) ?_ rfl S.bare
    · exact (S.ns.at' fun o e => hx _ o (Ne.symm (S.nw _ (.head _)).2) e).push _
    · rcases List.mem_cons.mp hp with rfl | hp
      · exact Heap.get?_push_size _ rfl
      · rcases List.mem_cons.mp hp with rfl | hp
        · exact Heap.get?_push_of_some _ hoc
        · rcases List.mem_cons.mp hp with rfl | hp
          · exact Heap.get?_push_of_some _ htb
          · exact Heap.get?_push_of_some _ (hx _ _ (fun q => nd.1 (by show P ∈ _; rw [← q]; exact List.mem_map_of_mem hp)) (S.nw p (.tail _ hp)).1)
    · rcases List.mem_cons.mp hp with rfl | hp
      · exact .inr (fresh _ (by show s.heap.objs.size ≤ h'.objs.size; omega))
      · rcases List.mem_cons.mp hp with rfl | hp
        · exact .inr (fresh _ hge)
        · rcases List.mem_cons.mp hp with rfl | hp
          · exact .inl (.head _)
          · exact .inl (.tail _ (List.mem_map_of_mem hp))
    · have offs : ∀ p ∈ ((P, tabObj #[]) :: news : Led), p.1 ≠ c' ∧ p.1 ≠ h'.objs.size := fun p hp => hof _ _ (S.nw p hp).1
      have hP2 := offs _ (.head _)
      refine List.nodup_cons.mpr ⟨fun hm => ?_, List.nodup_cons.mpr ⟨fun hm => ?_, S.nd⟩⟩
      · rcases List.mem_cons.mp hm with e | hm
        · exact absurd e (by show h'.objs.size ≠ c'; omega)
        · rcases List.mem_cons.mp hm with e | hm
          · exact hP2.2 e.symm
          · obtain ⟨p, hp, e⟩ := List.mem_map.mp hm
            exact (offs p (.tail _ hp)).2 e
      · rcases List.mem_cons.mp hm with e | hm
        · exact hP2.1 e.symm
        · obtain ⟨p, hp, e⟩ := List.mem_map.mp hm
          exact (offs p (.tail _ hp)).1 e
  refine S2.keep1 fun Ja hlea ha S3 => ?_
  refine S3.keep1 fun Jb hleb hb S4 => ?_
  exact h _ c' oc vs t _ ctv _ Jb _ (hlea.trans hleb) (hleb _ _ ha) hb hd hv ⟨_, rfl, by first | trivial | (simp [rawInt]; trivial)⟩ S4
/-- and called -/
theorem Sit.lamcall (S : Sit w (n + 1) A env o₀ Fs J m news s) {f : Addr} {args : List Value} {o : Obj} {fd : FuncData} {body : Expr} {binds : List (Str × Value)} {Q : Value → Shared → Prop}
    (ho : J f o) (hd : o.data = .func fd) (hbody : fd.body = .expr body) (hcode : s.heap.CodeRec fd.code fd.qualname) (hbind : BindsTo s fd ⟨args, []⟩ binds)
    (hcell : ∀ x ∈ fd.scope.names, x.2 ≠ .cell) (hloc : ∀ x ∈ binds, fd.scope.names.lookup x.1 = some .local) (hgl : fd.globals = mainGlobals) (hbl : fd.builtins = builtinsNs)
    (hco : fd.scope.isCoroutine = false) (hgen : fd.scope.isGenerator = false) (hk : fd.scope.kind = .function)
    (h : ∀ env' s₁ E' Fs', env'.scope = fd.scope → env'.cells = fd.closure → Sit w n (A.deeper env') env' o₀ Fs' J (fun x => binds.reverse.lookup x) news s₁ →
      wpAny (MM w) (A.deeper env') (eval body env') (fun v s' => Back w n A env env' o₀ Fs Fs' m Q (.ret v) s') E' s₁) :
    wpAny (MM w) A (PySem.call (.ref f) args) Q E s := by
  refine wpAny_call (kla_callFunE (by have := S.room; omega) (S.get ho) hd hco hgen hbody hcode (hbind _ _ _ _ ?_))
  refine wpAny_newFunctionEnv hcell hloc (fun h₁ hns hsb => ⟨S.nolimit.fresh _ hsb, kla_codeExpr ?_⟩) hk
  have hk₁ : ∀ b o, s.heap.get? b = some o → h₁.get? b = some o := fun b o e => hsb.extBut b o (Nat.ne_of_lt (Heap.lt_size e)) (Heap.get?_push_of_some _ e)
  obtain ⟨oL, esL, epL, hL, rL⟩ := S.ns
  have ne : ∀ {a : Addr} {x : Obj}, s.heap.get? a = some x → a ≠ s.heap.objs.size := fun e => Nat.ne_of_lt (Heap.lt_size e)
  have hLn : env.locals ∉ news.map (·.1) := fun q => by
    obtain ⟨p, hp, e⟩ := List.mem_map.mp q
    exact (S.nw p hp).2 e
  have S₁ : Sit w n (A.deeper (callEnv fd s.heap.objs.size f)) (callEnv fd s.heap.objs.size f) o₀ (FsOf Fs env.locals s.heap) J (fun x => binds.reverse.lookup x) news { s with heap := h₁, toks := s.toks + binds.length } := by
    refine ⟨hns, fun a x e => ?_, fun a x e => ?_, fun p hp => ⟨hk₁ _ _ (S.nw p hp).1, ne (S.nw p hp).1⟩, S.nd, S.st, ?_, hk, hgl, hbl, S.hh, ?_, ?_, S.os, S.bare⟩
    · rcases e with e | ⟨rfl, e⟩
      · obtain ⟨h1, h2, h3⟩ := S.lf a x e
        exact ⟨hk₁ _ _ h1, ne h1, h3⟩
      · exact ⟨hk₁ _ _ e, ne e, hLn⟩
    · obtain ⟨h1, h2, h3, h4⟩ := S.lj a x e
      refine ⟨hk₁ _ _ h1, ne h1, h3, fun y q => ?_⟩
      rcases q with q | ⟨q, _⟩
      · exact h4 y q
      · exact h2 q
    · obtain ⟨fs, hA⟩ := S.fr
      exact ⟨_ :: fs, by show A.frames.map _ = _; rw [hA]; rfl⟩
    · have := S.room; show A.depth + 1 + n < _; omega
    · have := S.units; show A.units + 3 + 16 * n < _; omega
  refine wpAny_mono (h _ _ _ _ rfl rfl S₁) (fun v s' hb => ?_) fun _ _ e => e
  obtain ⟨J', m', news', S', hq⟩ := hb
  refine hq ?_
  have keepL := S'.lf env.locals oL (.inr ⟨rfl, hL⟩)
  refine ⟨⟨oL, esL, epL, keepL.1, rL⟩, fun a x q => ?_, fun a x q => ?_, fun p hp => ⟨(S'.nw p hp).1, fun q => keepL.2.2 (by rw [← q]; exact List.mem_map_of_mem hp)⟩, S'.nd, S'.st, S.fr, S.hk, S.hg, S.hb, S.hh, S.room, S.units, S'.os, S'.bare⟩
  · obtain ⟨h1, h2, h3⟩ := S'.lf a x (.inl q)
    exact ⟨h1, (S.lf a x q).2.1, h3⟩
  · obtain ⟨h1, h2, h3, h4⟩ := S'.lj a x q
    exact ⟨h1, fun z => h4 oL (.inr ⟨z, z ▸ hL⟩), h3, fun y z => h4 y (.inl z)⟩
end
-- text LA
section
variable {w : World} {n : Nat} {A : Around} {env : Env} {o₀ : OsState} {Fs J : Know} {m : Loc} {news : Led} {s : Shared} {E : Value → Shared → Prop}
/-! rules that only law wants -/
theorem Sit.sumL {l : Addr} {vs : List Value} {e : Nat} {ns : List Int} {Q : Value → Shared → Prop} (S : Sit w n A env o₀ Fs J m news s) (hl : s.heap.get? l = some (lO vs e)) (hi : IntsAre vs ns) (h : ∀ t s', Sit w n A env o₀ Fs J m news s' → Q (.int ns.sum t) s') :
    wpAny (MM w) A (PySem.call (.builtin "sum") [.ref l]) Q E s := by
  have hlen : vs.length = ns.length := hi.length
  have hne : l ≠ s.heap.objs.size := Nat.ne_of_lt (Heap.lt_size hl)
  refine call_sum_walkAnyS (wpAny_pyIter_list (items := vs.toArray) ⟨_, hl, rfl, e, rfl⟩ ?_)
  have S1 := S.push (k := s.toks) { cls := .type "list_iterator", data := .fields #[.ref l, .int 0 0] }
  have hl1 : (s.heap.push { cls := .type "list_iterator", data := .fields #[.ref l, .int 0 0] }).get? l = some (lO vs e) := Heap.get?_push_of_some _ hl
  obtain ⟨S2, hI⟩ := S1.loosen
  have W : Walks prg w A.in1 s.heap.objs.size [s.heap.objs.size, l] [s.heap.objs.size] vs.length (fun i v => vs.toArray[i]? = some v) (fun i h => h.IsListIter s.heap.objs.size l i ∧ h.IsList l vs.toArray) := by
    have := Walks.list (prog := prg) (w := w) (A := A.in1) S.hh s.heap.objs.size l hne vs.toArray
    rwa [List.size_toArray] at this
  refine ⟨_, _, _, _, _, _, _, fun i => ns.getD i 0, rfl, W.toS, ⟨⟨_, S1.hd, rfl, rfl⟩, ⟨_, hl1, rfl, e, rfl⟩⟩, (fun b hb => ?_), (fun i v hv => ?_), fun s' t' hm => ?_⟩
  · rcases List.mem_cons.mp hb with rfl | hb
    · exact Heap.lt_size S1.hd
    · rw [List.mem_singleton.mp hb]; exact Heap.lt_size hl1
  · have hv : vs[i]? = some v := by simpa using hv
    obtain ⟨x, t, e1, e2⟩ := ints_get hi hv
    exact ⟨t, by rw [e2]; show Value.int x t = .int (ns.getD i 0) t; rw [List.getD_eq_getElem?_getD, e1]; rfl⟩
  · have e1 : ∀ j, j ≤ ns.length → preSum (fun i => ns.getD i 0) j = (ns.take j).sum := fun j => by
      induction j with
      | zero => intro _; simp [preSum]
      | succ j ih =>
        intro hj
        rw [preSum, ih (by omega), List.take_add_one, List.sum_append, List.getD_eq_getElem?_getD, List.getElem?_eq_getElem (by omega)]
        simp
    rw [hlen, e1 _ (Nat.le_refl _), List.take_length]
    refine h t' s' (S2.aside hI (fun b o hb e => hm.heap b o (by simpa using hb) e) hm.os ?_)
    have := hm.gens
    exact this ▸ S2.bare
theorem Sit.sliceTo {l : Addr} {vs : List Value} {e : Nat} {pos2 px pos pk : Pos} {nm : Str} {kk : Nat} {k : Nat} {Q : Value → Shared → Prop} (S : Sit w n A env o₀ Fs J m news s) (hx : env.kindOf nm = some .local) (hv : m nm = some (.ref l)) (hd : (nm == ("__debug__" : Str)) = false) (hl : J l (lO vs e)) (hz : vs.length ≤ 1000)
    (h : ∀ D s', Sit w n A env o₀ Fs J m ((D, lO (vs.take k) 0) :: news) s' → Q (.ref D) s') :
    wpAny (MM w) A (eval (.Subscript (.Name nm px) (.Slice none (some (.Constant (.int (k : Nat)) kk pk)) none pos) pos2) env) Q E s := by
  refine wpAny_Subscript_list_slice (S.ld hx hv ?_ hd)
  rw [evalPart_none]
  refine wpAny_pure ?_
  rw [evalPart_some]
  refine S.ci fun t s S => ?_
  refine ⟨l, vs.toArray, none, some (k : Int), rfl, ⟨_, S.get hl, rfl, e, rfl⟩, by rw [sizeLine_eq]; simp; omega, .none, .int _ _, ?_⟩
  have S1 := (S.push (k := s.toks) { cls := .type "slice", data := .fields #[.none, .int (k : Nat) t, .none] }).push (k := s.toks) (lO (vs.take k) 0)
  rw [Heap.size_push] at S1
  have e1 : slicePick vs.toArray none (some (k : Int)) none = (vs.take k).toArray := by rw [slicePick_upto']
  rw [e1]
  exact h _ _ (S1.perm (List.Perm.swap _ _ _)).drop
/-- a list taken apart -/
theorem Sit.assignL (S : Sit w n A env o₀ Fs J m news s) {a : Addr} {vs : List Value} {e : Nat} {elts : List Expr} {k : Nat} {pos : Pos} {Q : Unit → Shared → Prop} (ha : J a (lO vs e)) (hn : (assignEach elts env).length = vs.length) (hstar : (assignEach elts env).findIdx? (·.1) = none)
    (h : ∀ s', Sit w n A env o₀ Fs J m news s' → wpAny (MM w) A (assignInOrder ((assignEach elts env).map (·.2)) vs) Q E s') : wpAny (MM w) A (assign (.Tuple elts k pos) env (.ref a)) Q E s := by
  rw [assign_Tuple]
  refine wpAny_bind (wpAny_standAt ?_)
  unfold unpack
  rw [hn, hstar]
  have := kun_itemsOf (prog := prg) (w := w) (A := A) (E := E) (l := a) (items := vs.toArray) (s := s) (Q := fun its s' => wpAny (MM w) A (assignInOrder ((assignEach elts env).map (·.2)) its) Q E s') S.hh ⟨_, S.get ha, rfl, e, rfl⟩ (fun h' he => h _ (S.ext (k := s.toks) he))
  rw [List.size_toArray] at this
  exact wpAny_bind (wpAny_holding this)
theorem Sit.neNil {l D : Addr} {vs : List Value} {e e' : Nat} {Q : Value → Shared → Prop} (S : Sit w (n + 1) A env o₀ Fs J m news s) (hl : s.heap.get? l = some (lO vs e)) (hD : s.heap.get? D = some (lO [] e')) (h : Q (.bool (vs.length != 0)) s) :
    wpAny (MM w) A (compareOp .NotEq (.ref l) (.ref D)) Q E s := by
  have hu := S.units
  by_cases hv : vs = []
  · subst hv
    have := SeqAt.RcNeAt.lists (A := A) (s := s) (l := l) (b := D) (items := #[]) (items2 := #[]) (e := fun _ => true) ⟨_, hl, rfl, e, rfl⟩ ⟨_, hD, rfl, e', rfl⟩ rfl (by omega) (fun j h1 _ => by simp at h1)
    exact EqBoolInt.of_rcne this h
  · have hz : (vs.length != 0) = true := by
      cases vs with
      | nil => exact absurd rfl hv
      | cons a l => simp
    rw [hz] at h
    have := SeqAt.RcNeAt.lists_lengths (A := A) (s := s) (l := l) (b := D) (items := vs.toArray) (items2 := #[]) ⟨_, hl, rfl, e, rfl⟩ ⟨_, hD, rfl, e', rfl⟩ (by simpa using hv) (by omega)
    exact EqBoolInt.of_rcne this h
/-- the call that stands at the foot: law from nothing -/
structure Pre (w : World) (n : Nat) (A : Around) (o₀ : OsState) (J : Know) (news : Led) (s : Shared) : Prop where
  lj : ∀ a o, J a o → s.heap.get? a = some o ∧ a ∉ news.map (·.1)
  nw : ∀ p ∈ news, s.heap.get? p.1 = some p.2
  nd : (news.map (·.1)).Nodup
  st : ∃ hs, Stat w hs ∧ ∀ a o, hs.get? a = some o → J a o
  fr : ∃ fs, A.frames = some fs
  hh : A.handled = none
  room : A.depth + n < recursionLimit
  units : A.units + 16 * n < cLine
  os : s.os = o₀
  bare : AllBare s.gens
theorem Pre.X {n : Nat} (S : Pre w n A o₀ J news s) : (Mine.hd.heap_1 w.params).In s.heap := fun a o e => by
  obtain ⟨hs, st, k⟩ := S.st
  exact (S.lj a o (k a o (st.X a o e))).1
theorem Pre.enterC (S : Pre w (n + 1) A o₀ J news s) {f : Addr} {args : List Value} {kw : List (Str × Value)} {o : Obj} {fd : FuncData} {body : List Stmt} {binds : List (Str × Value)} {Q : Value → Shared → Prop}
    (ho : (Mine.hd.heap_1 w.params).lookup f = some o) (hd : o.data = .func fd) (hbody : fd.body = .stmts body) (hcl : fd.closure = []) (hcode : codeIn (Mine.hd.heap_1 w.params) fd.code fd.qualname = true) (hbind : BindsTo s fd ⟨args, kw⟩ binds)
    (hkind : (binds.all fun y => fd.scope.names.lookup y.1 == some .local || fd.scope.names.lookup y.1 == some .cell) = true) (hnd : ((cellsFrom 0 fd.scope.names []).map (·.1)).Nodup) (hgl : fd.globals = mainGlobals) (hbl : fd.builtins = builtinsNs)
    (hco : fd.scope.isCoroutine = false) (hgen : fd.scope.isGenerator = false) (hk : fd.scope.kind = .function)
    (h : ∀ env' s₁ E' L cells, env'.scope = fd.scope → env'.cells = cellsFrom (L + 1) fd.scope.names [] → env'.code = fd.code →
      CellsAre (bindC (fun x => fd.scope.names.lookup x) binds fun _ => none) (cellsFrom (L + 1) fd.scope.names []) cells →
      Sit w n (A.deeper env') env' o₀ (fun _ _ => False) J (bindL (fun x => fd.scope.names.lookup x) binds fun _ => none) (cells ++ news) s₁ →
      wpAny (MM w) (A.deeper env') (execs body env') (fun fl s' => Q (retv fl) s') E' s₁) :
    wpAny (MM w) A (PySem.call (.ref f) args kw) Q E s := by
  have X := S.X
  refine wpAny_call (codeAny_call_function (by have := S.room; omega) (X _ _ ho) hd hco hgen hbody (codeRec_of X hcode) (hbind _ _ _ _ ?_))
  rw [hcl]
  refine wpAny_newFunctionEnv_cells hk (kindsX hkind _) fun env' he s₁ x => ?_
  obtain ⟨h₁, tk, rfl, hk₁⟩ := x.done
  have hns := x.toInCall.ns
  have hloc : env'.locals = s.heap.objs.size := by rw [he]; rfl
  have hscope : env'.scope = fd.scope := by rw [he]; rfl
  have hcells : env'.cells = cellsFrom (s.heap.objs.size + 1) fd.scope.names [] := by rw [he]; rfl
  have hko : env'.kindOf = fun x => fd.scope.names.lookup x := by funext y; unfold Env.kindOf; rw [hscope]
  have hnames : (cellsFrom (s.heap.objs.size + 1) fd.scope.names []).map (·.1) = (cellsFrom 0 fd.scope.names []).map (·.1) := cellsFrom_names fd.scope.names (s.heap.objs.size + 1) 0 [] [] rfl
  obtain ⟨cells, hcg, hca, hce⟩ := cells_led (h := h₁) (L := s.heap.objs.size) (cm := bindC (fun x => fd.scope.names.lookup x) binds fun _ => none) (cs := cellsFrom (s.heap.objs.size + 1) fd.scope.names []) fun n c hm => by
    have h1 := x.cell n c (lookup_of_mem_nodup (by rw [hcells, hnames]; exact hnd) (by rw [hcells]; exact hm))
    have h2 := x.above n c (by rw [hcells]; exact hm)
    rw [hko] at h1
    exact ⟨h1, by rw [← hloc]; exact h2⟩
  have cabove : ∀ a, a ∈ cells.map (·.1) → s.heap.objs.size < a := fun a ha => by
    rw [hce] at ha
    obtain ⟨⟨n, c⟩, hm, rfl⟩ := List.mem_map.mp ha
    have := x.above n c (by rw [hcells]; exact hm)
    rw [hloc] at this; exact this
  have cnd : (cells.map (·.1)).Nodup := by
    rw [hce]
    have := x.apart
    rw [hcells] at this
    exact List.pairwise_map.mpr this
  have hlim : s.heap.NoLimit := by
    obtain ⟨hs, st, k⟩ := S.st
    obtain ⟨p, loose, mean, mg, mb, T⟩ := st.T
    exact T.nolimit.keeps fun a o e => (S.lj a o (k a o e)).1
  refine ⟨hlim.keeps hk₁, codeAny_func ?_⟩
  have ne : ∀ {a : Addr} {x : Obj}, s.heap.get? a = some x → a ≠ s.heap.objs.size := fun e => Nat.ne_of_lt (Heap.lt_size e)
  have offc : ∀ {a : Addr} {x : Obj}, s.heap.get? a = some x → a ∉ cells.map (·.1) := fun e hm => Nat.lt_asymm (cabove _ hm) (Heap.lt_size e)
  have S₁ : Sit w n (A.deeper env') env' o₀ (fun _ _ => False) J (bindL (fun x => fd.scope.names.lookup x) binds fun _ => none) (cells ++ news) { s with heap := h₁, toks := tk } := by
    refine ⟨by rw [← hko]; exact hns, fun a x e => e.elim, fun a x e => ?_, fun p hp => ?_, ?_, S.st, ?_, by rw [hscope]; exact hk, by rw [he]; exact hgl, by rw [he]; exact hbl, S.hh, ?_, ?_, S.os, S.bare⟩
    · rw [hloc]
      obtain ⟨h1, h3⟩ := S.lj a x e
      refine ⟨hk₁ _ _ h1, ne h1, fun hm => ?_, fun y q => q.elim⟩
      rw [List.map_append] at hm
      rcases List.mem_append.mp hm with hm | hm
      · exact offc h1 hm
      · exact h3 hm
    · rw [hloc]
      rcases List.mem_append.mp hp with hp | hp
      · exact ⟨hcg p hp, Nat.ne_of_gt (cabove _ (List.mem_map_of_mem hp))⟩
      · exact ⟨hk₁ _ _ (S.nw p hp), ne (S.nw p hp)⟩
    · rw [List.map_append]
      refine List.nodup_append.mpr ⟨cnd, S.nd, fun a ha b hb e => ?_⟩
      subst e
      obtain ⟨p, hp, e2⟩ := List.mem_map.mp hb
      have := S.nw p hp
      rw [e2] at this
      exact offc this ha
    · obtain ⟨fs, hA⟩ := S.fr
      exact ⟨_ :: fs, by show A.frames.map _ = _; rw [hA]; rfl⟩
    · have := S.room; show A.depth + 1 + n < _; omega
    · have := S.units; show A.units + 3 + 16 * n < _; omega
  refine wpAny_mono (h env' _ _ s.heap.objs.size cells hscope hcells (by rw [he]; rfl) hca S₁) (fun fl s' hb => ?_) fun _ _ e => e
  suffices hh : Q (retv fl) s' by cases fl <;> exact hh
  exact hb
end
-- text PL
section
variable {w : World} {n : Nat} {A : Around} {env : Env} {o₀ : OsState} {Fs J : Know} {m : Loc} {news : Led} {s : Shared} {E : Value → Shared → Prop}
/-! the plain law -/
theorem str_app (a b : Str) : a ++ b = (⟨a.cps ++ b.cps⟩ : Str) := rfl
theorem cps_eq {a b : Str} (h : a.cps = b.cps) : a = b := by cases a; cases b; cases h; rfl
theorem join0_cps : ∀ parts : List Str, (Txt.join txtE parts).cps.toList = (parts.map fun x => x.cps.toList).flatten := fun parts => by
  have key : ∀ (rest : List Str) (acc : Array Nat), (rest.foldl (fun acc p => acc ++ txtE.cps ++ p.cps) acc).toList = acc.toList ++ (rest.map fun x => x.cps.toList).flatten := fun rest => by
    induction rest with
    | nil => intro acc; simp
    | cons x r ih =>
      intro acc
      rw [List.foldl_cons, ih]
      have e : txtE.cps = #[] := rfl
      simp [e]
  cases parts with
  | nil => rfl
  | cons x r =>
    show (r.foldl (fun acc p => acc ++ txtE.cps ++ p.cps) x.cps).toList = _
    rw [key]
    simp
theorem txtP_cps (ps : List (Str × Str)) : (txtP ps).cps.toList = (ps.map fun q => q.1.cps.toList ++ q.2.cps.toList).flatten := by
  unfold txtP
  rw [show Str.ofString "" = txtE from rfl, join0_cps]
  rw [List.map_map]
  congr 1
  refine List.map_congr_left fun q _ => ?_
  show (Txt.join txtE [q.1, q.2]).cps.toList = _
  rw [join0_cps]
  simp
theorem txtP_snoc (ps : List (Str × Str)) (f p : Str) : txtP (ps ++ [(f, p)]) = txtP ps ++ f ++ p := by
  apply cps_eq
  apply Array.toList_inj.mp
  rw [txtP_cps]
  show _ = ((txtP ps).cps ++ f.cps ++ p.cps).toList
  simp [txtP_cps]
theorem txtP_nil : txtP [] = txtE := by
  apply cps_eq
  apply Array.toList_inj.mp
  rw [txtP_cps]; rfl
theorem str_nil_app (a : Str) : txtE ++ a = a := by
  apply cps_eq
  show txtE.cps ++ a.cps = a.cps
  have e : txtE.cps = #[] := rfl
  rw [e]; simp
noncomputable def fmAt (head W : Int) (bare : Bool) (ws : List Str) : Nat → FmS
  | 0 => ⟨[], [], head⟩
  | k + 1 => fmStep W (fmAt head W bare ws k) (blankOf bare k) (ws.getD k Str.empty)
theorem blank_len (b : Bool) (k : Nat) : (blankOf b k).length ≤ 1 := by unfold blankOf; split <;> decide
theorem lenOf_one (f p : Str) : lenOf [(f, p)] = (f.length : Int) + p.length := by simp [lenOf]
theorem sim {head W : Int} {bare : Bool} {ws : List Str} (hh : 0 ≤ head) (hw : ∀ x ∈ ws, 1 ≤ x.length) : ∀ k, k ≤ ws.length →
    (fmAt head W bare ws k).lines = (foldAt head W bare ws k).lines ∧ txtP (fmAt head W bare ws k).ps = (foldAt head W bare ws k).line ∧ (fmAt head W bare ws k).i0 + lenOf (fmAt head W bare ws k).ps = (foldAt head W bare ws k).size ∧
      0 ≤ (fmAt head W bare ws k).i0 ∧ (fmAt head W bare ws k).i0 ≤ head ∧ ((fmAt head W bare ws k).ps = [] → k = 0) ∧ ((fmAt head W bare ws k).ps ≠ [] → 0 < lenOf (fmAt head W bare ws k).ps)
  | 0, _ => by
    refine ⟨rfl, txtP_nil, ?_, hh, Int.le_refl _, fun _ => rfl, fun h => absurd rfl h⟩
    show head + lenOf [] = head
    simp [lenOf]
  | k + 1, hk => by
    obtain ⟨h1, h2, h3, h4, h4b, h5, h6⟩ := sim (bare := bare) (W := W) hh hw k (by omega)
    generalize hst : fmAt head W bare ws k = st at h1 h2 h3 h4 h4b h5 h6
    generalize hfo : foldAt head W bare ws k = fo at h1 h2 h3
    have hx : 1 ≤ (ws.getD k Str.empty).length := by
      rw [List.getD_eq_getElem?_getD, List.getElem?_eq_getElem (by omega)]
      exact hw _ (List.getElem_mem _)
    generalize hww : ws.getD k Str.empty = x at hx
    have eF : fmAt head W bare ws (k + 1) = fmStep W st (blankOf bare k) x := by rw [fmAt, hst, hww]
    have eO : foldAt head W bare ws (k + 1) = foldStep W bare fo k x := by rw [foldAt, hfo, hww]
    rw [eF, eO]
    obtain ⟨lines, ps, i0⟩ := st
    obtain ⟨lines', line, size⟩ := fo
    dsimp only at h1 h2 h3 h4 h4b h5 h6
    subst h1
    subst h2
    subst h3
    have hl : ((blankOf bare k ++ x).length : Int) = (blankOf bare k).length + x.length := by rw [slen]; simp
    have hs : lenOf (ps ++ [(blankOf bare k, x)]) = lenOf ps + ((blankOf bare k).length + x.length) := lenOf_snoc _ _
    have hp0 := lenOf_nonneg ps
    by_cases hW : W < i0 + lenOf (ps ++ [(blankOf bare k, x)])
    · by_cases hps : ps = []
      · subst hps
        have hk0 := h5 rfl
        subst hk0
        have el : lenOf ([] : List (Str × Str)) = 0 := by simp [lenOf]
        by_cases hi : 0 < i0
        · have ef : (if blankOf bare 0 = txtE then blnk else blankOf bare 0) = Str.ofString " " := by
            cases bare <;> decide
          have e1 : fmStep W ⟨lines, [], i0⟩ (blankOf bare 0) x = ⟨lines ++ [txtP [(txtE, txtE)]], [(Str.ofString " ", x)], 0⟩ := by
            unfold fmStep
            dsimp only
            rw [if_pos hW, if_pos rfl, if_pos hi, ef]
          have e2 : foldStep W bare ⟨lines, txtP [], i0 + lenOf []⟩ 0 x = ⟨lines ++ [txtP []], Str.ofString "" ++ Str.ofString " " ++ x, 0 + ((Str.ofString " " ++ x).length : Nat)⟩ := by
            unfold foldStep
            dsimp only
            rw [if_pos (And.intro (by omega) (by omega))]
          rw [e1, e2]
          have e3 : txtP [(txtE, txtE)] = txtP [] := by decide
          refine ⟨by rw [e3], ?_, ?_, Int.le_refl _, hh, fun h => by simp at h, fun _ => ?_⟩
          · have := txtP_snoc [] (Str.ofString " ") x
            rw [List.nil_append] at this
            rw [this, txtP_nil]
            rfl
          · rw [lenOf_one, slen]; simp
          · rw [lenOf_one]; omega
        · have e1 : fmStep W ⟨lines, [], i0⟩ (blankOf bare 0) x = ⟨lines, [(blankOf bare 0, x)], i0⟩ := by
            unfold fmStep
            dsimp only
            rw [if_pos hW, if_pos rfl, if_neg hi]
          have e2 : foldStep W bare ⟨lines, txtP [], i0 + lenOf []⟩ 0 x = ⟨lines, txtP [] ++ blankOf bare 0 ++ x, i0 + lenOf [] + ((blankOf bare 0 ++ x).length : Nat)⟩ := by
            unfold foldStep
            dsimp only
            rw [if_neg (fun q => hi (by have := q.1; omega))]
          rw [e1, e2]
          refine ⟨rfl, ?_, ?_, h4, h4b, fun h => by simp at h, fun _ => ?_⟩
          · have := txtP_snoc [] (blankOf bare 0) x
            rw [List.nil_append] at this
            exact this
          · rw [lenOf_one, slen, el]; simp
          · rw [lenOf_one]; omega
      · have hpos := h6 hps
        have hkz : k ≠ 0 := fun hkz => by
          subst hkz
          rw [fmAt] at hst
          injection hst with _ q _
          exact hps q.symm
        have hb : blankOf bare k = Str.ofString " " := by unfold blankOf; rw [if_neg (fun q => hkz q.2)]
        have e1 : fmStep W ⟨lines, ps, i0⟩ (blankOf bare k) x = ⟨lines ++ [txtP ps], [(Str.ofString " ", x)], 0⟩ := by
          unfold fmStep
          dsimp only
          rw [if_pos hW, if_neg hps, hb]
        have e2 : foldStep W bare ⟨lines, txtP ps, i0 + lenOf ps⟩ k x = ⟨lines ++ [txtP ps], Str.ofString "" ++ Str.ofString " " ++ x, 0 + ((Str.ofString " " ++ x).length : Nat)⟩ := by
          unfold foldStep
          dsimp only
          rw [if_pos (And.intro (by omega) (by omega))]
        rw [e1, e2]
        refine ⟨rfl, ?_, ?_, Int.le_refl _, hh, fun h => by simp at h, fun _ => ?_⟩
        · have := txtP_snoc [] (Str.ofString " ") x
          rw [List.nil_append] at this
          rw [this, txtP_nil]
          rfl
        · rw [lenOf_one, slen]; simp
        · rw [lenOf_one]; omega
    · have e1 : fmStep W ⟨lines, ps, i0⟩ (blankOf bare k) x = ⟨lines, ps ++ [(blankOf bare k, x)], i0⟩ := by
        unfold fmStep
        dsimp only
        rw [if_neg hW]
      have e2 : foldStep W bare ⟨lines, txtP ps, i0 + lenOf ps⟩ k x = ⟨lines, txtP ps ++ blankOf bare k ++ x, i0 + lenOf ps + ((blankOf bare k ++ x).length : Nat)⟩ := by
        unfold foldStep
        dsimp only
        rw [if_neg (fun q => hW (by rw [hs]; have := q.2; omega))]
      rw [e1, e2]
      refine ⟨rfl, txtP_snoc _ _ _, ?_, h4, h4b, fun h => by simp at h, fun _ => ?_⟩
      · show i0 + lenOf (ps ++ [(blankOf bare k, x)]) = _
        rw [hs]
        show _ = i0 + lenOf ps + ((blankOf bare k ++ x).length : Nat)
        rw [hl]; omega
      · show 0 < lenOf (ps ++ [(blankOf bare k, x)])
        rw [hs]; omega
end
-- text PN
section
variable {w : World} {n : Nat} {A : Around} {env : Env} {o₀ : OsState} {Fs J : Know} {m : Loc} {news : Led} {s : Shared} {E : Value → Shared → Prop}
theorem fm_last {head W : Int} {bare : Bool} {ws : List Str} (k : Nat) : ∃ ps' f, (fmAt head W bare ws (k + 1)).ps = ps' ++ [(f, ws.getD k Str.empty)] := by
  rw [fmAt]
  unfold fmStep
  split
  · split
    · split
      · exact ⟨[], _, rfl⟩
      · exact ⟨[], _, rfl⟩
    · exact ⟨[], _, rfl⟩
  · exact ⟨_, _, rfl⟩
theorem fm_bound {head W : Int} {bare : Bool} {ws : List Str} (hw : ∀ x ∈ ws, x.length ≤ 100) : ∀ k, k ≤ ws.length → (fmAt head W bare ws k).ps.length ≤ k ∧ lenOf (fmAt head W bare ws k).ps ≤ 101 * k ∧ (fmAt head W bare ws k).lines.length ≤ k
  | 0, _ => ⟨Nat.le_refl _, by show lenOf [] ≤ _; simp [lenOf], Nat.le_refl _⟩
  | k + 1, hk => by
    obtain ⟨h1, h2, h3⟩ := fm_bound (head := head) (W := W) (bare := bare) hw k (by omega)
    have hx : (ws.getD k Str.empty).length ≤ 100 := by
      rw [List.getD_eq_getElem?_getD, List.getElem?_eq_getElem (by omega)]
      exact hw _ (List.getElem_mem _)
    have hb := blank_len bare k
    have hp := lenOf_nonneg (fmAt head W bare ws k).ps
    have hbl : blnk.length = 1 := rfl
    rw [fmAt]
    unfold fmStep
    split
    · split
      · split
        · refine ⟨by simp, ?_, by simp; omega⟩
          show lenOf [(_, _)] ≤ _
          rw [lenOf_one]
          split
          · rw [hbl]; omega
          · omega
        · refine ⟨by simp, ?_, by show (fmAt head W bare ws k).lines.length ≤ _; omega⟩
          show lenOf [(_, _)] ≤ _
          rw [lenOf_one]; omega
      · refine ⟨by simp, ?_, by simp; omega⟩
        show lenOf [(_, _)] ≤ _
        rw [lenOf_one]; omega
    · refine ⟨by simp; omega, ?_, by show (fmAt head W bare ws k).lines.length ≤ _; omega⟩
      show lenOf (_ ++ [(_, _)]) ≤ _
      rw [lenOf_snoc]
      show _ + (((blankOf bare k).length : Int) + ((ws.getD k Str.empty).length : Int)) ≤ _
      omega
theorem sorted_uniq {α : Type} {r : α → α → Prop} (anti : ∀ a b, r a b → r b a → a = b) (rfl' : ∀ a, r a a) : ∀ {l l' : List α}, l.Perm l' → l.Pairwise r → l'.Pairwise r → l = l'
  | [], l', p, _, _ => (List.nil_perm.mp p).symm
  | a :: l, l', p, h, h' => by
    cases l' with
    | nil => exact absurd p (by simp)
    | cons b l'' =>
      have hab : a = b := by
        have ha : a ∈ b :: l'' := p.mem_iff.mp List.mem_cons_self
        have hb : b ∈ a :: l := p.mem_iff.mpr List.mem_cons_self
        rcases List.mem_cons.mp ha with e | ha
        · exact e
        · rcases List.mem_cons.mp hb with e | hb
          · exact e.symm
          · exact anti _ _ ((List.pairwise_cons.mp h).1 b hb) ((List.pairwise_cons.mp h').1 a ha)
      subst hab
      rw [sorted_uniq anti rfl' (p.cons_inv) (List.pairwise_cons.mp h).2 (List.pairwise_cons.mp h').2]
/-! no sign of a writing is a blank -/
theorem ns_all : ∀ i : Fin 64, Unicode.isSpace (codeB (i.val : Int)).toNat = false := by decide +kernel
theorem ns_code (i : Int) : Unicode.isSpace (codeB i).toNat = false := by
  by_cases h : i.toNat < 64
  · have := ns_all ⟨i.toNat, h⟩
    have e : codeB ((⟨i.toNat, h⟩ : Fin 64).val : Int) = codeB i := by
      unfold codeB
      rw [show ((⟨i.toNat, h⟩ : Fin 64).val : Int).toNat = i.toNat from rfl]
    rw [e] at this
    exact this
  · have e : codeB i = 0 := by
      unfold codeB
      rw [List.getD_eq_getElem?_getD, List.getElem?_eq_none (by show 64 ≤ _; omega)]
      rfl
    rw [e]
    decide +kernel
theorem ns_61 : Unicode.isSpace (61 : Int).toNat = false := by decide +kernel
noncomputable def NSp (l : List Int) : Prop := ∀ x ∈ l, Unicode.isSpace x.toNat = false
theorem nsp_app {l l' : List Int} (h : NSp l) (h' : NSp l') : NSp (l ++ l') := fun x hx => (List.mem_append.mp hx).elim (h x) (h' x)
theorem nsp_drain : ∀ k (st : BS), NSp st.out → NSp (drain k st).out
  | 0, _, h => h
  | k + 1, st, h => by
    rw [drain]
    split
    · exact nsp_drain k _ (nsp_app h fun x hx => by rw [List.mem_singleton.mp hx]; exact ns_code _)
    · exact h
theorem nsp_raw : ∀ (ns : List Int) (st : BS), NSp st.out → NSp (ns.foldl pushB st).out
  | [], _, h => h
  | b :: ns, st, h => nsp_raw ns _ (nsp_drain 2 _ h)
theorem nsp_fin (ns : List Int) : NSp (b64fin (b64raw ns)) := by
  have h := nsp_raw ns ⟨[], 0, 0⟩ (fun x hx => (nomatch hx))
  unfold b64fin
  split
  · refine nsp_app h fun x hx => ?_
    rcases List.mem_cons.mp hx with rfl | hx
    · exact ns_code _
    · have : x = 61 := by simpa using hx
      rw [this]; exact ns_61
  split
  · refine nsp_app h fun x hx => ?_
    rcases List.mem_cons.mp hx with rfl | hx
    · exact ns_code _
    · have : x = 61 := by simpa using hx
      rw [this]; exact ns_61
  · exact h
theorem written_ns {ns : List Int} (h1 : 1 ≤ ns.length) (h5 : ns.length ≤ 5) (hr : ∀ n ∈ ns, 0 ≤ n ∧ n < 256) : ∀ c ∈ (written ns).cps.toList, Unicode.isSpace c = false := fun c hc => by
  rw [← (fin_written h1 h5 hr).1] at hc
  have hc : c ∈ ((b64fin (b64raw ns)).map Int.toNat) := by
    have : (txtOf (b64fin (b64raw ns))).cps.toList = (b64fin (b64raw ns)).map Int.toNat := by unfold txtOf; simp
    rwa [this] at hc
  obtain ⟨x, hx, rfl⟩ := List.mem_map.mp hc
  exact nsp_fin ns x hx
theorem not_space {ps : List (Str × Str)} {f p : Str} (hp : 1 ≤ p.length) (hn : ∀ c ∈ p.cps.toList, Unicode.isSpace c = false) : Txt.isspace (txtP (ps ++ [(f, p)])) = false := by
  unfold Txt.isspace
  rw [Bool.and_eq_false_iff]
  right
  obtain ⟨c, hc⟩ : ∃ c, c ∈ p.cps.toList := by
    have : p.cps.toList ≠ [] := fun e => by
      have h2 : p.length = p.cps.toList.length := by simp [Str.length]
      rw [h2, e] at hp
      simp at hp
    exact List.exists_mem_of_ne_nil _ this
  rw [Array.all_eq_false]
  have hm : c ∈ (txtP (ps ++ [(f, p)])).cps.toList := by
    rw [txtP_cps]
    rw [List.map_append, List.flatten_append]
    refine List.mem_append_right _ ?_
    simp only [List.map_cons, List.map_nil, List.flatten_cons, List.flatten_nil, List.append_nil]
    exact List.mem_append_right _ hc
  have hm2 : c ∈ (txtP (ps ++ [(f, p)])).cps := by simpa using hm
  obtain ⟨i, hi, e⟩ := Array.mem_iff_getElem.mp hm2
  exact ⟨i, hi, by rw [e]; simpa using hn c hc⟩
/-! the rows -/
theorem rowOf_len (x : Int) : 1 ≤ (rowOf x).length ∧ (rowOf x).length ≤ 5 := by
  unfold rowOf
  rw [List.length_map, List.length_range]
  have h1 := Int.fmod_nonneg_of_pos x (by decide : (0 : Int) < 5)
  have h2 := Int.fmod_lt_of_pos x (by decide : (0 : Int) < 5)
  omega
theorem rowOf_oct (x : Int) : ∀ n ∈ rowOf x, 0 ≤ n ∧ n < 256 := fun n hn => by
  obtain ⟨k, _, rfl⟩ := List.mem_map.mp hn
  exact ⟨Int.fmod_nonneg_of_pos _ (by decide), Int.fmod_lt_of_pos _ (by decide)⟩
abbrev KR := Int × List Int
noncomputable def krLe (a b : KR) : Prop := itLt b.1 b.2 a.1 a.2 = false
theorem krLe_refl (a : KR) : krLe a a := It.le_refl ⟨0, a.1, 0, a.2⟩
theorem krLe_anti (a b : KR) (h : krLe a b) (h' : krLe b a) : a = b := by
  obtain ⟨h1, h2⟩ := itLt_total h' h
  exact Prod.ext h1 h2
theorem krLe_trans {a b c : KR} (h : krLe a b) (h' : krLe b c) : krLe a c := itLe_trans h h'
noncomputable def krOf (odd : Bool) (ns : List Int) : KR := (if odd = true then -(ns.length : Int) else (ns.length : Int), ns)
noncomputable def ltK (ks : List KR) (i j : Nat) : Bool := itLt (ks.getD i (0, [])).1 (ks.getD i (0, [])).2 (ks.getD j (0, [])).1 (ks.getD j (0, [])).2
theorem ltK_ord (ks : List KR) : OrdB (ltK ks) := ⟨fun _ _ h => itLt_asymm h, fun _ _ _ h h' => itLe_trans h h'⟩
/-- what sorted gives, as rows -/
theorem order_sorted {ks : List KR} {p : Array Nat} (hp : Pm ks.length p) (hu : Up (ltK ks) p ks.length) : (p.toList.map fun i => ks.getD i (0, [])).Pairwise krLe ∧ (p.toList.map fun i => ks.getD i (0, [])).Perm ks := by
  constructor
  · rw [List.pairwise_map]
    rw [List.pairwise_iff_getElem]
    intro i j hi hj hij
    have h1 : i < p.size := by simpa using hi
    have h2 : j < p.size := by simpa using hj
    have := hu i j hij (by rw [← hp.size]; exact h2)
    have e1 : gd p i = p.toList[i] := by unfold gd; simp [Array.getD, h1]
    have e2 : gd p j = p.toList[j] := by unfold gd; simp [Array.getD, h2]
    rw [e1, e2] at this
    exact this
  · have h1 := hp.perm.map fun i => ks.getD i (0, [])
    have h2 : ((List.range ks.length).map fun i => ks.getD i (0, [])) = ks := by
      apply List.ext_getElem
      · simp
      · intro i h3 h4
        simp [List.getElem?_eq_getElem h4]
    rw [h2] at h1
    exact h1
end
-- text LV
section
variable {w : World} {n : Nat} {A : Around} {env : Env} {o₀ : OsState} {Fs J : Know} {m : Loc} {news : Led} {s : Shared} {E : Value → Shared → Prop}
section
open MeetsSeq MeetsSeq2 MeetsSeq3 SeqRoads2 SeqAt
theorem call_lists {l b : Addr} {items items2 : Array Value} {e r : Nat → Bool} {Q : Value → Shared → Prop} (hl : s.heap.IsList l items) (hb : s.heap.IsList b items2)
    (he : ∀ j (h1 : j < items.size) (h2 : j < items2.size), EqAt A.in1 s items[j] items2[j] (e j)) (hr : ∀ j (h1 : j < items.size) (h2 : j < items2.size), e j = false → LtAt A.in1 s items[j] items2[j] (r j))
    (h : Q (.bool (ltR items.size items2.size e r (min items.size items2.size) 0)) s) : wpAny (MM w) A (PySem.call (.builtin "list.__lt__") [.ref l, .ref b]) Q E s := by
  obtain ⟨⟨cls, dd, data, sl⟩, ho, hc, n, hd⟩ := id hl
  obtain ⟨⟨cls2, dd2, data2, sl2⟩, ho2, hc2, n2, hd2⟩ := id hb
  simp only at hc hd hc2 hd2
  subst hc hd hc2 hd2
  exact call_meets F.slot_list_lt ⟨_, ho, rfl⟩ F.entry_list_lt (F.args_list_lt_2 _ _) (list_ltAt l b items items2 n n2 dd dd2 sl sl2 e r) ⟨ho, ho2, he, hr, h⟩
theorem call_item {a b r r' : Addr} {k k' : Int} {t t' : Tok} {vs us : List Value} {ns ms : List Int} {Q : Value → Shared → Prop} (ha : s.heap.IsList a #[.int k t, .ref r]) (hb : s.heap.IsList b #[.int k' t', .ref r'])
    (hl : s.heap.IsList r vs.toArray) (hl' : s.heap.IsList r' us.toArray) (hn : IntsAre vs ns) (hm : IntsAre us ms) (hu : A.units + 2 < cLine) (h : Q (.bool (itLt k ns k' ms)) s) : wpAny (MM w) A (PySem.call (.builtin "list.__lt__") [.ref a, .ref b]) Q E s := by
  refine call_lists (e := fun j => if j = 0 then k == k' else decide (ns = ms)) (r := fun j => if j = 0 then decide (k < k') else lexLt ns ms) ha hb (fun j h1 h2 => ?_) (fun j h1 h2 he => ?_) ?_
  · have : j = 0 ∨ j = 1 := by simp at h1; omega
    rcases this with rfl | rfl
    · exact EqAt.int_int _ _ _ _
    · exact eqAt_ints hl hl' hn hm (by show A.units + 1 < _; omega)
  · have : j = 0 ∨ j = 1 := by simp at h1; omega
    rcases this with rfl | rfl
    · exact ltAt_int _ _ _ _
    · exact ltAt_ints hl hl' hn hm (by show A.units + 1 < _; omega)
  · have e : ltR 2 2 (fun j => if j = 0 then k == k' else decide (ns = ms)) (fun j => if j = 0 then decide (k < k') else lexLt ns ms) 2 0 = itLt k ns k' ms := by
      simp only [ltR, itLt]
      by_cases h1 : k = k'
      · subst h1
        by_cases h2 : ns = ms
        · subst h2; simp [lexLt_irr]
        · simp [h2]
      · simp [h1]
    rw [← e] at h; exact h
theorem Sit.keyLt (S : Sit w n A env o₀ Fs J m news s) {x y : It} (hu : A.units + 2 < cLine) (hx : ItIn J x) (hy : ItIn J y) {Q : Bool → Shared → Prop} (h : Q (x.lt y) s) : wpAny (MM w) A (keyLt' oneType' (.ref x.a) (.ref y.a)) Q E s := by
  obtain ⟨t, e, vs, e', h1, h2, h3⟩ := hx
  obtain ⟨t', f, us, f', g1, g2, g3⟩ := hy
  rw [keyLt'_oneType, oneLt'_eq]
  simp only [if_true]
  refine wpAny_bind (wpAny_cRoomFor (by omega) ?_)
  refine wpAny_bind (wpAny_callSpecialIfBound?_slot ⟨_, S.get h1, rfl⟩ F.slot_list_lt ?_)
  refine call_item ⟨_, S.get h1, rfl, e, rfl⟩ ⟨_, S.get g1, rfl, f, rfl⟩ ⟨_, S.get h2, rfl, e', rfl⟩ ⟨_, S.get g2, rfl, f', rfl⟩ h3 g3 hu ?_
  exact wpAny_truthy_bool h
end
end
-- text LW
section
variable {w : World} {n : Nat} {A : Around} {env : Env} {o₀ : OsState} {Fs J : Know} {m : Loc} {news : Led} {s : Shared} {E : Value → Shared → Prop}
noncomputable def constRows : List Int := [325, 6, 83886077, 1, 49]
noncomputable def xsOf (script : List Int) : List Int := script.take 6 ++ constRows
noncomputable def wholeOf (script : List Int) : Int := (script.take 6).sum + 65
noncomputable def RowsIn (J : Know) (ys : List Value) (rs : List (List Int)) : Prop := ys.length = rs.length ∧ ∀ (i : Nat) v, ys[i]? = some v → ∃ r vs e ns, v = Value.ref r ∧ J r (lO vs e) ∧ IntsAre vs ns ∧ rs[i]? = some ns
theorem RowsIn.mono {J J' : Know} {ys : List Value} {rs : List (List Int)} (h : RowsIn J ys rs) (hle : J.le J') : RowsIn J' ys rs :=
  ⟨h.1, fun i v e => let ⟨r, vs, e', ns, h1, h2, h3⟩ := h.2 i v e; ⟨r, vs, e', ns, h1, hle _ _ h2, h3⟩⟩
theorem RowsIn.nil {J : Know} : RowsIn J [] [] := ⟨rfl, fun i v e => by simp at e⟩
theorem RowsIn.snoc {J : Know} {ys : List Value} {rs : List (List Int)} {r : Addr} {vs : List Value} {e : Nat} {ns : List Int} (h : RowsIn J ys rs) (hr : J r (lO vs e)) (hi : IntsAre vs ns) : RowsIn J (ys ++ [.ref r]) (rs ++ [ns]) := by
  refine ⟨by simp [h.1], fun i v hv => ?_⟩
  rw [List.getElem?_append] at hv
  split at hv
  · rename_i hlt
    obtain ⟨r', vs', e', ns', h1, h2, h3, h4⟩ := h.2 i v hv
    exact ⟨r', vs', e', ns', h1, h2, h3, by rw [List.getElem?_append_left (by rw [← h.1]; exact hlt)]; exact h4⟩
  · rename_i hlt
    have hi0 : i - ys.length = 0 := by
      rw [List.getElem?_eq_some_iff] at hv
      obtain ⟨q, _⟩ := hv
      simp at q; omega
    rw [hi0] at hv
    simp at hv
    subst hv
    refine ⟨r, vs, e, ns, rfl, hr, hi, ?_⟩
    rw [List.getElem?_append_right (by rw [← h.1]; omega), ← h.1, hi0]; rfl
theorem ints_take {vs : List Value} {ns : List Int} (h : IntsAre vs ns) : ∀ k, IntsAre (vs.take k) (ns.take k) := by
  induction h with
  | nil => intro k; rw [List.take_nil, List.take_nil]; exact .nil
  | cons n t _ ih =>
    intro k
    cases k with
    | zero => exact .nil
    | succ k => exact .cons n t (ih k)
noncomputable def krI (it : It) : KR := (it.k, it.ns)
noncomputable def LoopA (D H L : Addr) (whole : Int) (tw : Tok) (odd : Bool) (rl : List (List Int)) (J₀ : Know) (k : Nat) (J' : Know) (m' : Loc) (news' : Led) : Prop :=
  J₀.le J' ∧ m' (Str.ofString "rows") = some (.ref D) ∧ m' (Str.ofString "heap") = some (.ref H) ∧ ∃ xs e oc, oc.data = .cell (some (.int whole tw)) ∧
    news' = [(H, lO (refs xs) e), (L + 1, oc), (259, tabObj #[]), (140, tabObj #[]), (147, tabObj #[])] ∧ HeapL xs ∧ (∀ it ∈ xs, ItIn J' it) ∧ (xs.map krI).Perm ((rl.take k).map (krOf odd))
theorem fm_pre {hd W : Int} {bare : Bool} {ws us : List Str} : ∀ k, k ≤ ws.length → fmAt hd W bare (ws ++ us) k = fmAt hd W bare ws k
  | 0, _ => rfl
  | k + 1, hk => by
    rw [fmAt, fmAt, fm_pre k (by omega)]
    congr 1
    rw [List.getD_eq_getElem?_getD, List.getD_eq_getElem?_getD, List.getElem?_append_left (by omega)]
noncomputable def wsD (dn : List KR) : List Str := dn.map fun q => written q.2
noncomputable def LoopB (w : World) (n : Nat) (A : Around) (env : Env) (o₀ : OsState) (J₀ : Know) (D H L F LL x dx : Addr) (v : FmV) (hd W : Int) (bare : Bool) (oc : Obj) (all : List KR) (k : Nat) (s : Shared) : Prop :=
  ∃ J' m' led lvs le xs xe dn tb, xs.length = k ∧ J₀.le J' ∧ m' (Str.ofString "rows") = some (.ref D) ∧ m' (Str.ofString "heap") = some (.ref H) ∧ m' (Str.ofString "formatter") = some (.ref F) ∧ m' (Str.ofString "blank") = some (.str (blankOf bare dn.length) tb) ∧
    FmIn w J' F LL x W v ∧ AccAt w J' x dx (fmAt hd W bare (wsD dn) dn.length).ps (fmAt hd W bare (wsD dn) dn.length).i0 led ∧ StrsAre lvs (fmAt hd W bare (wsD dn) dn.length).lines ∧
    HeapL xs ∧ (∀ it ∈ xs, ItIn J' it) ∧ dn.Pairwise krLe ∧ (∀ d ∈ dn, ∀ it ∈ xs, krLe d (krI it)) ∧ (dn ++ xs.map krI).Perm all ∧
    Sit w n A env o₀ (fun _ _ => False) J' m' (led ++ (LL, lO lvs le) :: [(H, lO (refs xs) xe), (L + 1, oc), (259, tabObj #[])]) s
theorem perm3 {α : Type} {l : List α} {a b : α} {r : List α} : (b :: (l ++ a :: r)).Perm (l ++ a :: b :: r) := by
  have := (List.perm_middle (l₁ := l ++ [a]) (a := b) (l₂ := r)).symm
  simpa using this
theorem blank_or (bare : Bool) (k : Nat) : blankOf bare k = txtE ∨ blankOf bare k = blnk := by
  unfold blankOf
  split
  · exact .inl rfl
  · exact .inr rfl
theorem blank_succ (bare : Bool) (k : Nat) : blankOf bare (k + 1) = Str.ofString " " := by
  unfold blankOf
  rw [if_neg (by simp)]
theorem blank_snoc (bare : Bool) (dn : List KR) (q : KR) : blankOf bare (dn ++ [q]).length = Str.ofString " " := by
  rw [List.length_append]; exact blank_succ _ _
theorem fm_next (hd W : Int) (bare : Bool) (dn : List KR) (q : KR) : fmAt hd W bare (wsD (dn ++ [q])) (dn ++ [q]).length = fmStep W (fmAt hd W bare (wsD dn) dn.length) (blankOf bare dn.length) (written q.2) := by
  rw [List.length_append]
  show fmAt hd W bare _ (dn.length + 1) = _
  have e : wsD (dn ++ [q]) = wsD dn ++ [written q.2] := by simp [wsD]
  have hl : (wsD dn).length = dn.length := by simp [wsD]
  rw [fmAt, e, fm_pre _ (by omega)]
  congr 1
  rw [List.getD_eq_getElem?_getD, List.getElem?_append_right (by omega), hl, Nat.sub_self]
  rfl
theorem ws_len {dn : List KR} (hall : ∀ d ∈ dn, 1 ≤ d.2.length ∧ d.2.length ≤ 5 ∧ ∀ n ∈ d.2, 0 ≤ n ∧ n < 256) : ∀ x ∈ wsD dn, 4 ≤ x.length ∧ x.length ≤ 8 := fun x hx => by
  obtain ⟨d, hd, rfl⟩ := List.mem_map.mp hx
  obtain ⟨h1, h2, h3⟩ := hall d hd
  have := written_len h1 h2 h3
  omega
theorem fm_facts {hd W : Int} {bare : Bool} {dn : List KR} (hall : ∀ d ∈ dn, 1 ≤ d.2.length ∧ d.2.length ≤ 5 ∧ ∀ n ∈ d.2, 0 ≤ n ∧ n < 256) (hl : dn.length ≤ 11) (hh : 0 ≤ hd ∧ hd < 8) :
    0 ≤ (fmAt hd W bare (wsD dn) dn.length).i0 ∧ (fmAt hd W bare (wsD dn) dn.length).i0 ≤ 1000 ∧ (fmAt hd W bare (wsD dn) dn.length).ps.length ≤ 11 ∧ (fmAt hd W bare (wsD dn) dn.length).lines.length ≤ 11 ∧ lenOf (fmAt hd W bare (wsD dn) dn.length).ps ≤ 1111 ∧
      ((fmAt hd W bare (wsD dn) dn.length).ps ≠ [] → blankOf bare dn.length = blnk) := by
  have hw := ws_len hall
  have hl2 : (wsD dn).length = dn.length := by simp [wsD]
  obtain ⟨_, _, _, h4, h5, _⟩ := sim (W := W) (bare := bare) hh.1 (fun x hx => by have := hw x hx; omega) dn.length (by omega)
  obtain ⟨b1, b2, b3⟩ := fm_bound (head := hd) (W := W) (bare := bare) (fun x hx => by have := hw x hx; omega : ∀ x ∈ wsD dn, x.length ≤ 100) dn.length (by omega)
  refine ⟨h4, by omega, by omega, by omega, by omega, fun hne => ?_⟩
  cases dn with
  | nil => exact absurd rfl hne
  | cons a l => exact blank_succ _ _
theorem noCell {l : List (Str × NameKind)} (h : (l.all fun x => x.2 != .cell) = true) : ∀ x ∈ l, x.2 ≠ .cell := fun x hx e => by
  have := List.all_eq_true.mp h x hx
  rw [e] at this
  exact absurd this (by decide)
theorem ltK_at {rl : List (List Int)} {odd : Bool} {i j : Nat} {x y : It} (hi : i < rl.length) (hj : j < rl.length) (hx : krI x = krOf odd (rl.getD i [])) (hy : krI y = krOf odd (rl.getD j [])) : ltK (rl.map (krOf odd)) i j = x.lt y := by
  have e : ∀ k, k < rl.length → (rl.map (krOf odd)).getD k (0, []) = krOf odd (rl.getD k []) := fun k hk => by
    rw [List.getD_eq_getElem?_getD, List.getD_eq_getElem?_getD, List.getElem?_map, List.getElem?_eq_getElem hk]; rfl
  unfold ltK
  rw [e i hi, e j hj, ← hx, ← hy]
  rfl
theorem rows_order {J : Know} {ys : List Value} {rl : List (List Int)} (h : RowsIn J ys rl) {p : Array Nat} (hp : Pm ys.length p) : RowsIn J (p.toList.map fun i => ys.getD i .none) (p.toList.map fun i => rl.getD i []) := by
  refine ⟨by simp, fun i v hv => ?_⟩
  rw [List.getElem?_map] at hv
  cases hq : p.toList[i]? with
  | none => rw [hq] at hv; cases hv
  | some k =>
    rw [hq] at hv
    have hk : k < ys.length := by
      have := hp.perm.mem_iff.mp (List.mem_of_getElem? hq)
      simpa using this
    have hv : ys.getD k .none = v := by simpa using hv
    have hv2 : ys[k]? = some v := by rw [← hv, List.getD_eq_getElem?_getD, List.getElem?_eq_getElem hk]; rfl
    obtain ⟨r, vs, e', ns, h1, h2, h3, h4⟩ := h.2 k v hv2
    refine ⟨r, vs, e', ns, h1, h2, h3, ?_⟩
    rw [List.getElem?_map, hq]
    show some (rl.getD k []) = _
    rw [List.getD_eq_getElem?_getD, h4]; rfl
theorem flat_len : ∀ ps : List (Str × Str), (((ps.map fun q => q.1.cps.toList ++ q.2.cps.toList).flatten.length : Nat) : Int) = lenOf ps
  | [] => rfl
  | q :: ps => by
    have := flat_len ps
    rw [List.map_cons, List.flatten_cons, List.length_append, List.length_append]
    have e : lenOf (q :: ps) = (q.1.length : Int) + q.2.length + lenOf ps := by simp [lenOf]
    rw [e, ← this]
    simp [Str.length]
theorem txtP_length (ps : List (Str × Str)) : ((txtP ps).length : Int) = lenOf ps := by
  rw [← flat_len, ← txtP_cps]
  simp [Str.length]
theorem fm_total {head W : Int} {bare : Bool} {ws : List Str} (hw : ∀ x ∈ ws, x.length ≤ 100) : ∀ k, k ≤ ws.length → ((((fmAt head W bare ws k).lines.map (·.length)).sum : Nat) : Int) + lenOf (fmAt head W bare ws k).ps ≤ 101 * k
  | 0, _ => by show (0 : Int) + lenOf [] ≤ _; simp [lenOf]
  | k + 1, hk => by
    have h1 := fm_total (head := head) (W := W) (bare := bare) hw k (by omega)
    have hx : (ws.getD k Str.empty).length ≤ 100 := by
      rw [List.getD_eq_getElem?_getD, List.getElem?_eq_getElem (by omega)]
      exact hw _ (List.getElem_mem _)
    have hb := blank_len bare k
    have hp := lenOf_nonneg (fmAt head W bare ws k).ps
    have hbl : blnk.length = 1 := rfl
    have ht := txtP_length (fmAt head W bare ws k).ps
    have ht0 : ((txtP [(txtE, txtE)]).length : Int) = 0 := by rw [txtP_length]; rfl
    rw [fmAt]
    unfold fmStep
    split
    · split
      · split
        · show ((((fmAt head W bare ws k).lines ++ [txtP [(txtE, txtE)]]).map (·.length)).sum : Nat) + lenOf [(_, _)] ≤ _
          rw [lenOf_one, List.map_append, List.sum_append]
          simp only [List.map_cons, List.map_nil, List.sum_cons, List.sum_nil]
          split
          · rw [hbl]; omega
          · omega
        · show ((((fmAt head W bare ws k).lines).map (·.length)).sum : Nat) + lenOf [(_, _)] ≤ _
          rw [lenOf_one]; omega
      · show ((((fmAt head W bare ws k).lines ++ [txtP (fmAt head W bare ws k).ps]).map (·.length)).sum : Nat) + lenOf [(_, _)] ≤ _
        rw [lenOf_one, List.map_append, List.sum_append]
        simp only [List.map_cons, List.map_nil, List.sum_cons, List.sum_nil]
        omega
    · show ((((fmAt head W bare ws k).lines).map (·.length)).sum : Nat) + lenOf (_ ++ [(_, _)]) ≤ _
      rw [lenOf_snoc]
      show _ + (_ + (((blankOf bare k).length : Int) + ((ws.getD k Str.empty).length : Int))) ≤ _
      omega
theorem fm_fin {hd W : Int} {bare : Bool} {dn : List KR} (hall : ∀ d ∈ dn, 1 ≤ d.2.length ∧ d.2.length ≤ 5 ∧ ∀ n ∈ d.2, 0 ≤ n ∧ n < 256) (hl : dn.length ≤ 11) (hl0 : 1 ≤ dn.length) (hh : 0 ≤ hd ∧ hd < 8) :
    ∃ ps' f p, (fmAt hd W bare (wsD dn) dn.length).ps = ps' ++ [(f, p)] ∧ (f == Str.ofString " " && p == Str.ofString "") = false ∧ 0 < lenOf (fmAt hd W bare (wsD dn) dn.length).ps ∧ Txt.isspace (txtP (fmAt hd W bare (wsD dn) dn.length).ps) = false ∧
      (((fmAt hd W bare (wsD dn) dn.length).lines ++ [txtP (fmAt hd W bare (wsD dn) dn.length).ps]).map (·.length)).sum + ((fmAt hd W bare (wsD dn) dn.length).lines ++ [txtP (fmAt hd W bare (wsD dn) dn.length).ps]).length * (Str.ofString "\n").length ≤ 16777216 ∧
      Txt.join (Str.ofString "\n") ((fmAt hd W bare (wsD dn) dn.length).lines ++ [txtP (fmAt hd W bare (wsD dn) dn.length).ps]) = folded hd W bare (wsD dn) := by
  have hw := ws_len hall
  have hl2 : (wsD dn).length = dn.length := by simp [wsD]
  obtain ⟨s1, s2, _, _, _, _, s7⟩ := sim (W := W) (bare := bare) hh.1 (fun x hx => by have := hw x hx; omega) dn.length (by omega)
  obtain ⟨_, _, b3⟩ := fm_bound (head := hd) (W := W) (bare := bare) (fun x hx => by have := hw x hx; omega : ∀ x ∈ wsD dn, x.length ≤ 100) dn.length (by omega)
  have ht := fm_total (head := hd) (W := W) (bare := bare) (fun x hx => by have := hw x hx; omega : ∀ x ∈ wsD dn, x.length ≤ 100) dn.length (by omega)
  have htp := txtP_length (fmAt hd W bare (wsD dn) dn.length).ps
  obtain ⟨k, hk⟩ : ∃ k, dn.length = k + 1 := ⟨dn.length - 1, by omega⟩
  obtain ⟨ps', f, hps⟩ := fm_last (head := hd) (W := W) (bare := bare) (ws := wsD dn) k
  rw [← hk] at hps
  obtain ⟨d, hd1, hd2⟩ : ∃ d ∈ dn, (wsD dn).getD k Str.empty = written d.2 := by
    refine ⟨dn[k], List.getElem_mem _, ?_⟩
    rw [List.getD_eq_getElem?_getD, List.getElem?_eq_getElem (by omega)]
    simp [wsD]
  rw [hd2] at hps
  obtain ⟨g1, g2, g3⟩ := hall d hd1
  have hwl := written_len g1 g2 g3
  refine ⟨ps', f, _, hps, ?_, s7 (by rw [hps]; simp), ?_, ?_, ?_⟩
  · rw [Bool.and_eq_false_iff]
    right
    rw [beq_eq_false_iff_ne]
    intro e
    rw [e] at hwl
    revert hwl; decide
  · rw [hps]
    exact not_space (by omega) (written_ns g1 g2 g3)
  · rw [List.map_append, List.sum_append, List.length_append]
    simp only [List.map_cons, List.map_nil, List.sum_cons, List.sum_nil, List.length_cons, List.length_nil]
    have e1 : (Str.ofString "\n").length = 1 := rfl
    rw [e1]
    omega
  · unfold folded
    rw [hl2, s1, s2]
theorem dn_order {rl : List (List Int)} {odd : Bool} {dn : List KR} {p : Array Nat} (hperm : dn.Perm (rl.map (krOf odd))) (hs : dn.Pairwise krLe) (hp : Pm rl.length p) (hu : Up (ltK (rl.map (krOf odd))) p rl.length) : wsD dn = (p.toList.map fun i => rl.getD i []).map written := by
  have hp' : Pm (rl.map (krOf odd)).length p := by rw [List.length_map]; exact hp
  have hu' : Up (ltK (rl.map (krOf odd))) p (rl.map (krOf odd)).length := by rw [List.length_map]; exact hu
  obtain ⟨o1, o2⟩ := order_sorted hp' hu'
  have e := sorted_uniq krLe_anti krLe_refl (hperm.trans o2.symm) hs o1
  rw [e]
  unfold wsD
  rw [List.map_map, List.map_map]
  refine List.map_congr_left fun i hi => ?_
  have hi : i < rl.length := by
    have := hp.perm.mem_iff.mp hi
    simpa using this
  show written ((rl.map (krOf odd)).getD i (0, [])).2 = written (rl.getD i [])
  rw [List.getD_eq_getElem?_getD, List.getD_eq_getElem?_getD, List.getElem?_map, List.getElem?_eq_getElem hi]
  rfl
theorem xs_ints {svs : List Value} {script : List Int} {t1 t2 t3 t4 t5 : Tok} (hi : IntsAre svs script) : IntsAre (svs.take 6 ++ [Value.int 325 t1, Value.int 6 t2, Value.int 83886077 t3, Value.int 1 t4, Value.int 49 t5]) (xsOf script) :=
  (ints_take hi 6).append (.cons _ _ (.cons _ _ (.cons _ _ (.cons _ _ (.cons _ _ .nil)))))
theorem take_snoc {α : Type} {l : List α} {k : Nat} {a : α} (h : l[k]? = some a) : l.take (k + 1) = l.take k ++ [a] := by
  rw [List.take_add_one, h]; rfl
theorem law_spec {scr : Addr} {svs : List Value} {se : Nat} {script : List Int} {Q : Value → Shared → Prop} (S : Pre w (n + 10) A o₀ J [(259, tabObj #[]), (140, tabObj #[]), (147, tabObj #[])] s) (hscr : J scr (lO svs se)) (hi : IntsAre svs script) (hlen : script.length ≤ 63)
    (h : ∀ env' J' m' led s' o1 o2 o3, Sit w (n + 9) (A.deeper env') env' o₀ (fun _ _ => False) J' m' led s' → J.le J' → TabO o1 → TabO o2 → TabO o3 → (259, o1) ∈ led → (140, o2) ∈ led → (147, o3) ∈ led → Q (.bool true) s') :
    wpAny (MM w) A (call (.ref 262) [.ref scr]) Q E s := by
  have hsl : svs.length = script.length := hi.length
  refine' Pre.enterC (f := 262) (binds := [(Str.ofString "script", .ref scr)]) S ?ho ?hd ?hb ?hcl ?hc ?hbi ?hkd ?hnd ?hgl ?hbl ?hco ?hge ?hk ?_
  case ho => k_is
  case hd => rfl
  case hb => rfl
  case hcl => rfl
  case hc => k_is
  case hbi => exact BindsTo.of_eq rfl
  case hkd => rfl
  case hnd => decide
  case hgl => rfl
  case hbl => rfl
  case hco => rfl
  case hge => rfl
  case hk => rfl
  intro env s E L cells hsc hce hcd hca S
  dsimp only at hsc hce hcd
  obtain ⟨oc, rfl, hoc⟩ := CellsAre.one (n := Str.ofString "whole") (c := L + 1) hca
  have hoc : oc.data = .cell none := hoc
  have hce : env.cells = [(Str.ofString "whole", L + 1)] := hce
  simp only [List.singleton_append] at S
  refine wpAny_execs_cons (Assign_Tuple ?_ (by with_unfolding_all rfl) (by unfold swappedStores Env.blockKind Env.kindOf; rw [hsc]; rfl))
  repeat kc_bool
  refine listcomp_ (cl := []) rfl rfl (by decide) (fun _ => rfl) ?_
  refine wpAny_BinOp ?_
  refine S.sliceTo (kind_of hsc rfl) rfl (by decide) hscr (by omega) ?_
  intro D1 s S
  repeat kc_bool
  refine S.newL (by rw [sizeLine_eq]; simp) ?_
  intro D2 s S
  refine S.lAdd (S.getN (.tail _ (.head _))) S.hd (by rw [sizeLine_eq, List.length_take]; simp; omega) ?_
  intro D3 s S
  refine S.keep1 fun J1 hle1 hD3 S => ?_
  have S := S.drop.drop
  obtain ⟨us, hxs, hD3⟩ : ∃ us, IntsAre us (xsOf script) ∧ J1 D3 (lO us 0) := ⟨_, xs_ints hi, hD3⟩
  have hxl : (xsOf script).length ≤ 11 := by unfold xsOf constRows; simp; omega
  refine S.compList hD3 (by rw [hxs.length, sizeLine_eq]; omega) (by decide) rfl rfl (fun k J' news' ys => news' = [(L + 1, oc), (259, tabObj #[]), (140, tabObj #[]), (147, tabObj #[])] ∧ RowsIn J' ys (((xsOf script).take k).map rowOf)) ⟨rfl, .nil⟩ ?_ ?_
  · rintro k v J2 mC news' ys D e cenv Fs2 s E hk hle ⟨rfl, hys⟩ hsc2 hce S
    have hsc := hsc2.trans (relabel_eq hsc)
    obtain ⟨x, t, e1, rfl⟩ := ints_get hxs hk
    repeat kc_bool
    refine law_row_spec (n := n + 8) S ?_
    intro r J3 s rvs re hle3 hr hri S
    refine ⟨J3, _, _, hle3, ⟨rfl, ?_⟩, S⟩
    rw [take_snoc e1, List.map_append]
    exact (hys.mono hle3).snoc hr hri
  rintro D e ys J2 news' s hle2 ⟨rfl, hys⟩ hyl S
  have hys : RowsIn J2 ys ((xsOf script).map rowOf) := by
    rw [hxs.length, List.take_length] at hys
    exact hys
  refine S.keep1 fun J3 hle3 hrows S => ?_
  have hys := hys.mono hle3
  repeat ((fail_if_success (show wpAny _ _ (eval (Expr.Subscript _ _ _) _) _ _ _)); kc_bool)
  refine S.sliceTo (kind_of hsc rfl) rfl (by decide) (hle3 _ _ (hle2 _ _ (hle1 _ _ hscr))) (by omega) ?_
  intro D4 s S
  repeat kc_bool
  refine S.sumL S.hd (ints_take hi 6) ?_
  intro _ s S
  have S := S.drop
  repeat kc_bool
  refine S.newL (by rw [sizeLine_eq]; simp) ?_
  intro H s S
  repeat kc_bool
  refine S.newT (by rw [sizeLine_eq]; simp) ?_
  intro T4 J4 s hle4 hT4 S
  refine S.assignT hT4 rfl rfl ?_
  intro s S
  simp only [eachN, each0, List.map_cons, List.map_nil]
  repeat kc_bool
  have S := S.perm (List.Perm.swap _ _ _)
  refine S.stc (kind_of hsc rfl) (by rw [hce]; rfl) hoc ?_
  intro oc s hoc S
  have S := S.perm (List.Perm.swap _ _ _)
  repeat kc_bool
  obtain ⟨whole, tw, hoc⟩ : ∃ whole tw, oc.data = .cell (some (.int whole tw)) := ⟨_, _, hoc⟩
  obtain ⟨rl, hrl⟩ : ∃ rl, rl = (xsOf script).map rowOf := ⟨_, rfl⟩
  rw [← hrl] at hys
  have hrll : rl.length ≤ 11 ∧ 5 ≤ rl.length := by rw [hrl]; unfold xsOf constRows; simp; omega
  have hrlo : ∀ ns ∈ rl, 1 ≤ ns.length ∧ ns.length ≤ 5 ∧ ∀ n ∈ ns, 0 ≤ n ∧ n < 256 := fun ns hns => by
    rw [hrl] at hns
    obtain ⟨x, _, rfl⟩ := List.mem_map.mp hns
    exact ⟨(rowOf_len x).1, (rowOf_len x).2, rowOf_oct x⟩
  clear hrl hxs hD3 hyl
  have hodd : ∃ odd : Bool, odd = decide (whole.fmod 2 = 1) := ⟨_, rfl⟩
  obtain ⟨odd, hodd⟩ := hodd
  have hle4' := hle4
  have hys := hys.mono hle4
  have hle4 := (hle1.trans hle2).trans (hle3.trans hle4)
  refine wpAny_execs_cons (wpAny_For ?_ (fun _ => rfl))
  repeat kc_bool
  refine S.forList (kind_of hsc rfl) (hle4' _ _ hrows) (LoopA D H L whole tw odd rl J4) ⟨.refl _, rfl, rfl, [], 0, oc, hoc, rfl, fun i h => by simp at h, fun it h => (nomatch h), .refl _⟩ ?_ ?_
  · rintro k v J5 m5 news5 Fs5 s E hv hle5 ⟨_, hm1, hm2, xs, xe, oc, hoc, rfl, hheap, hxs, hperm⟩ S
    obtain ⟨r, rvs, re, ns, rfl, hr, hri, hns⟩ := (hys.mono hle5).2 k v hv
    have hns5 := (hrlo ns (List.mem_of_getElem? hns)).2.1
    have hrln : rvs.length = ns.length := hri.length
    have hxl : xs.length ≤ 11 := by
      have := hperm.length_eq
      simp at this; omega
--[[A
    repeat ((fail_if_success (show wpAny _ _ (eval (Expr.IfExp _ _ _ _) _) _ _ _)); kc_bool)
    refine wpAny_mono (Q := fun v s' => ∃ t, v = .int (krOf odd ns).1 t ∧ Sit w (n + 9) (A.deeper env) env o₀ Fs5 J5 (upd m5 (Str.ofString "row") (Value.ref r)) [(H, lO (refs xs) xe), (L + 1, oc), (259, tabObj #[]), (140, tabObj #[]), (147, tabObj #[])] s') ?_ ?_ fun _ _ e => e
    · repeat kc_bool
      refine S.mod (by decide) ?_
      intro _ s S
      repeat kc_bool
      split
      · rename_i hq
        have ho : odd = true := by rw [hodd]; simpa using hq
        repeat kc_bool
        refine S.lenL (S.get hr) (by omega) ?_
        intro _ s S
        repeat kc_bool
        refine S.neg ?_
        intro t s S
        exact ⟨t, by rw [hrln]; unfold krOf; rw [if_pos ho], S⟩
      · rename_i hq
        have ho : ¬ odd = true := by rw [hodd]; simpa using hq
        repeat kc_bool
        refine S.lenL (S.get hr) (by omega) ?_
        intro t s S
        exact ⟨t, by rw [hrln]; unfold krOf; rw [if_neg ho], S⟩
    rintro v s ⟨t, rfl, S⟩
    repeat kc_bool
    refine S.newL (by rw [sizeLine_eq]; simp) ?_
    intro a s S
    refine S.keep1 fun J6 hle6 ha S => ?_
    repeat kc_bool
    obtain ⟨hp1, hp2⟩ := push_ok (x := ⟨a, (krOf odd ns).1, r, ns⟩) hheap
    have hxI : ItIn J6 ⟨a, (krOf odd ns).1, r, ns⟩ := ⟨_, _, _, _, ha, hle6 _ _ hr, hri⟩
    refine heappush_spec (n := n + 6) (x := ⟨a, (krOf odd ns).1, r, ns⟩) S (fun it hit => (hxs it hit).mono hle6) hxI (by omega) ?_
    intro s S
    repeat kc_bool
    refine ⟨.inl rfl, J6, upd m5 (Str.ofString "row") (.ref r), _, hle6, ⟨hle5.trans hle6, hm1, hm2, _, _, oc, hoc, rfl, hp1, fun it hit => ?_, ?_⟩, S⟩
    · rcases List.mem_append.mp (hp2.mem_iff.mp hit) with hit | hit
      · exact (hxs it hit).mono hle6
      · rw [List.mem_singleton.mp hit]; exact hxI
    · rw [take_snoc hns]
      refine (hp2.map krI).trans ?_
      rw [List.map_append, List.map_append]
      exact hperm.append (.refl _)
--]]A
  rintro J5 m5 news5 s hle5 ⟨_, hm1, hm2, xs, xe, oc, hoc, rfl, hheap, hxs, hperm⟩ S
  have hys := hys.mono hle5
  have hrows := hle5 _ _ (hle4' _ _ hrows)
  have hle5 := hle4.trans hle5
  rw [show ys.length = rl.length from hys.1, List.take_length] at hperm
  obtain ⟨bare, hbare⟩ : ∃ bare : Bool, bare = decide ((whole.fdiv 72).fmod 2 = 0) := ⟨_, rfl⟩
  obtain ⟨hd, hhd⟩ : ∃ hd : Int, hd = (whole.fdiv 9).fmod 8 := ⟨_, rfl⟩
  obtain ⟨W, hW⟩ : ∃ W : Int, W = 4 + whole.fmod 11 := ⟨_, rfl⟩
  have hhd0 : 0 ≤ hd ∧ hd < 8 := by rw [hhd]; exact ⟨Int.fmod_nonneg_of_pos _ (by decide), Int.fmod_lt_of_pos _ (by decide)⟩
  clear hle1 hle2 hle3 hscr
  refine wpAny_execs_cons (Assign_Tuple_swapped (names := [Str.ofString "formatter", Str.ofString "blank"]) ?_ (by with_unfolding_all rfl) (by unfold swappedStores Env.blockKind Env.kindOf; rw [hsc]; rfl))
  repeat kc_bool
  refine S.div (by decide) (PyProof.noPylong_small (by decide)) ?_
  intro _ s S
  repeat kc_bool
  refine S.mod (by decide) ?_
  intro _ s S
  repeat kc_bool
  refine S.mod (by decide) ?_
  intro _ s S
  repeat kc_bool
  rw [← hhd, ← hW]
  have S := S.perm (List.perm_append_comm (l₁ := [(140, tabObj #[]), (147, tabObj #[])]) (l₂ := [(H, lO (refs xs) xe), (L + 1, oc), (259, tabObj #[])]))
  refine makeFm_spec (n := n + 5) S tabO_nil tabO_nil ?_
  intro F LL x dx v J6 led s hle6 hF hA S
  have S : Sit w (n + 9) (A.deeper env) env o₀ (fun _ _ => False) J6 m5 (led ++ (LL, lO [] 0) :: [(H, lO (refs xs) xe), (L + 1, oc), (259, tabObj #[])]) s := S
  have hcm : ∀ {l : Led} {a b c : Addr × Obj}, (L + 1, oc) ∈ l ++ a :: b :: (L + 1, oc) :: [c] := fun {l a b c} => List.mem_append_right _ (.tail _ (.tail _ (.head _)))
  repeat ((fail_if_success (show wpAny _ _ (eval (Expr.IfExp _ _ _ _) _) _ _ _)); kc_bool)
  refine wpAny_mono (Q := fun v s' => ∃ t, v = .str (blankOf bare 0) t ∧ Sit w (n + 9) (A.deeper env) env o₀ (fun _ _ => False) J6 m5 (led ++ (LL, lO [] 0) :: [(H, lO (refs xs) xe), (L + 1, oc), (259, tabObj #[])]) s') ?_ ?_ fun _ _ e => e
  ·
--[[B
    repeat kc_bool
    refine S.div (by decide) (PyProof.noPylong_small (by decide)) ?_
    intro _ s S
    repeat kc_bool
    refine S.mod (by decide) ?_
    intro _ s S
    repeat kc_bool
    split
    · rename_i hq
      have ho : bare = true := by rw [hbare]; simpa using hq
      repeat kc_bool
      exact ⟨_, by unfold blankOf; rw [if_pos ⟨ho, rfl⟩], S⟩
    · rename_i hq
      have ho : ¬ bare = true := by rw [hbare]; simpa using hq
      repeat kc_bool
      exact ⟨_, by unfold blankOf; rw [if_neg fun q => ho q.1], S⟩
--]]B
  rintro _ s ⟨tb, rfl, S⟩
  repeat kc_bool
  refine S.newT (by simp [sizeLine_eq]) ?_
  intro T7 J7 s hle7 hT7 S
  refine S.unpackT hT7 rfl ?_
  intro s S
  simp only [List.reverse_cons, List.reverse_nil, List.nil_append, List.cons_append, List.map_cons, List.map_nil]
  repeat kc_bool
  refine while_then (LoopB w (n + 9) (A.deeper env) env o₀ J7 D H L F LL x dx v hd W bare oc (rl.map (krOf odd)) 0) (LoopB w (n + 9) (A.deeper env) env o₀ J7 D H L F LL x dx v hd W bare oc (rl.map (krOf odd))) xs.length ?_ ?_ ?_
  · refine ⟨J7, _, led, [], 0, xs, xe, [], tb, rfl, .refl _, by exact hm1, by exact hm2, rfl, rfl, hF.mono hle7, hA.mono hle7, .nil, hheap, fun it hit => (hxs it hit).mono (hle6.trans hle7), .nil, fun d hd => (nomatch hd), hperm, S⟩
  · rintro k s E ⟨J8, m8, led8, lvs, le, xs, xe, dn, tb, rfl, hle8, hm1, hm2, hm3, hm4, hF, hA, hL, hheap, hxs, hsort, hbel, hperm, S⟩
--[[C
    repeat kc_bool
    refine S.newL (by simp [sizeLine_eq]) ?_
    intro D9 s S
    refine S.neNil (n := n + 8) (vs := refs xs) (S.getN (.tail _ (List.mem_append_right _ (.tail _ (.head _))))) S.hd ?_
    have S := S.drop
    rw [refs_length]
    repeat kc_bool
    rcases List.eq_nil_or_concat xs with rfl | ⟨xs, y, rfl⟩
    · rw [if_neg (by simp)]
      exact ⟨J8, m8, led8, lvs, le, [], xe, dn, tb, rfl, hle8, hm1, hm2, hm3, hm4, hF, hA, hL, hheap, hxs, hsort, hbel, hperm, S⟩
    rw [List.concat_eq_append] at *
    rw [if_pos (by simp)]
    have hpl := hperm.length_eq
    simp only [List.length_append, List.length_map, List.length_cons, List.length_nil] at hpl
    obtain ⟨hp1, hp2, hp3⟩ := pop_ok hheap
    have hmem : xs.headD y ∈ xs ++ [y] := hp2.mem_iff.mp (.head _)
    obtain ⟨z, hz⟩ : ∃ z, z = xs.headD y := ⟨_, rfl⟩
    rw [← hz] at hp2 hp3 hmem
    obtain ⟨tz, ez, zvs, ze', hza, hzr, hzi⟩ := hxs z hmem
    have hzall : krI z ∈ rl.map (krOf odd) := hperm.mem_iff.mp (List.mem_append_right _ (List.mem_map_of_mem hmem))
    obtain ⟨zns, hzn1, hzn2⟩ := List.mem_map.mp hzall
    have hzns : z.ns = zns := (congrArg Prod.snd hzn2).symm
    obtain ⟨hz1, hz5, hzo⟩ := hrlo zns hzn1
    rw [← hzns] at hz1 hz5 hzo
    refine wpAny_execs_cons (Assign_Tuple ?_ (by with_unfolding_all rfl) (by unfold swappedStores Env.blockKind Env.kindOf; rw [hsc]))
    repeat kc_bool
    have S := S.perm (perm3 (b := (H, lO (refs (xs ++ [y])) xe)))
    refine heappop_spec (n := n + 5) S (fun it hit => hxs it (List.mem_append_left _ hit)) (hxs y (List.mem_append_right _ (.head _))) (by omega) ?_
    intro s S
    rw [← hz]
    refine S.assignL hza rfl rfl ?_
    intro s S
    have S := S.perm (perm3 (b := (H, lO (refs (popd xs y)) (xe + 1)))).symm
    simp only [eachN, each0, List.map_cons, List.map_nil]
    repeat kc_bool
    have hall : ∀ d ∈ dn, 1 ≤ d.2.length ∧ d.2.length ≤ 5 ∧ ∀ n ∈ d.2, 0 ≤ n ∧ n < 256 := fun d hd => by
      obtain ⟨ns, h1, rfl⟩ := List.mem_map.mp (hperm.mem_iff.mp (List.mem_append_left _ hd))
      exact hrlo ns h1
    obtain ⟨f1, f2, f3, f4, f5, f6⟩ := fm_facts (hd := hd) (W := W) (bare := bare) hall (by omega) hhd0
    refine S.fmMeth hF (by k_is) (by k_is) (fun _ => rfl) ?_
    repeat kc_bool
    refine S.bytesOf (S.get hzr) hzi hzo (by rw [hzi.length, sizeLine_eq]; omega) ?_
    intro _ s S
    repeat kc_bool
    refine b64encode_spec (n := n + 6) S hzo (by omega) ?_
    intro _ J9 s hle9 S
    obtain ⟨c, rest, kd, hb1, hb2⟩ := dec_written hz1 hz5 hzo
    rw [hb1]
    refine KBd.method ?_
    repeat kc_bool
    have hwl := written_len hz1 hz5 hzo
    refine S.decode hb2 (by omega) ?_
    intro _ s S
    repeat kc_bool
    refine append_spec (n := n + 2) S (hF.mono hle9) (hA.mono hle9) hL ⟨f1, f2⟩ (by omega) (by omega) ?_ (blank_or _ _) f6 ?_
    · rw [lenOf_snoc]
      have := blank_len bare dn.length
      show _ + (((blankOf bare dn.length).length : Int) + ((written z.ns).length : Int)) ≤ _
      omega
    intro J10 led10 lvs10 le10 s hle10 hA10 hL10 S
    repeat kc_bool
    have hnx := fm_next hd W bare dn (krI z)
    obtain ⟨tb11, S⟩ : ∃ t, Sit w (n + 9) (A.deeper env) env o₀ (fun _ _ => False) J10 (upd (upd (upd m8 (Str.ofString "size") (.int z.k tz)) (Str.ofString "row") (.ref z.r)) (Str.ofString "blank") (.str (Str.ofString " ") t)) (led10 ++ (LL, lO lvs10 le10) :: [(H, lO (refs (popd xs y)) (xe + 1)), (L + 1, oc), (259, tabObj #[])]) s := ⟨_, S⟩
    refine ⟨(popd xs y).length, ?_, J10, _, led10, lvs10, le10, popd xs y, _, dn ++ [krI z], tb11, rfl, (hle8.trans hle9).trans hle10, by exact hm1, by exact hm2, by exact hm3, ?_, (hF.mono hle9).mono hle10, ?_, ?_, hp1, fun it hit => ?_, ?_, ?_, ?_, S⟩
    · have := hp2.length_eq
      simp at this ⊢; omega
    · rw [blank_snoc]; rfl
    · rw [hnx]; exact hA10
    · rw [hnx]; exact hL10
    · exact ((hxs it (hp2.mem_iff.mp (.tail _ hit))).mono hle9).mono hle10
    · exact List.pairwise_append.mpr ⟨hsort, List.pairwise_singleton _ _, fun d hd q hq => by rw [List.mem_singleton.mp hq]; exact hbel d hd z hmem⟩
    · intro d hd it hit
      have hit := hp2.mem_iff.mp (.tail _ hit)
      rcases List.mem_append.mp hd with hd | hd
      · exact hbel d hd it hit
      · rw [List.mem_singleton.mp hd]; exact hp3 it hit
    · refine List.Perm.trans ?_ hperm
      rw [List.append_assoc]
      exact List.Perm.append_left dn (hp2.map krI)
--]]C
  rintro s ⟨J8, m8, led8, lvs, le, xs, xe, dn, tb, hx0, hle8, hm1, hm2, hm3, hm4, hF, hA, hL, hheap, hxs, hsort, hbel, hperm, S⟩
  obtain rfl := List.length_eq_zero_iff.mp hx0
  rw [List.map_nil, List.append_nil] at hperm
  have hys := hys.mono (hle6.trans (hle7.trans hle8))
  have hrows := (hle6.trans (hle7.trans hle8)) _ _ hrows
  have hle8 := hle5.trans (hle6.trans (hle7.trans hle8))
  clear hle6 hle7 hle5 hle4 hle4'
  kc_bool
  kc_bool
  refine callNK ?_
  repeat kc_bool
  refine callWith_kw ?_
  repeat kc_bool
  refine kwAll_cons ?_
  refine kla_eval rfl ?_
  have S := S.perm (news' := (259, tabObj #[]) :: (led8 ++ (LL, lO lvs le) :: [(H, lO (refs []) xe), (L + 1, oc)])) ((List.perm_append_comm (l₁ := [(259, tabObj #[])]) (l₂ := led8 ++ (LL, lO lvs le) :: [(H, lO (refs []) xe), (L + 1, oc)])).trans (.of_eq (by simp)))
  refine S.makeLam (c := 261) hcd code261 (clos := [(Str.ofString "whole", L + 1)]) (by unfold closureFor cellOf; rw [hce]; rfl) ?_
  intro f c' oc' vs' t' pm ctv o9 J9 s hle9 hf hc' hdc hvc ho9 S
  refine kwAll_nil ?_
  have hys := hys.mono hle9
  have hrows := hle9 _ _ hrows
  have hF := hF.mono hle9
  have hA := hA.mono hle9
  have hle9 := hle8.trans hle9
  refine S.sortedK (n := n + 7) (KP := fun J i k => ∃ it : It, k = .ref it.a ∧ ItIn J it ∧ krI it = krOf odd (rl.getD i [])) (ltK_ord (rl.map (krOf odd))) hrows (by rw [hys.1]; omega) (by rw [hys.1]; omega) ?_ ?_ ?_ ?_ ?_
  · rintro J J' i k hle ⟨it, h1, h2, h3⟩
    exact ⟨it, h1, h2.mono hle, h3⟩
  · rintro J i k ⟨it, h1, ⟨t, e, vs, e', h2, _⟩, h3⟩
    exact ⟨_, _, h1, h2, rfl⟩
  · intro i v J10 led s E hv hle10 S
--[[D
    obtain ⟨r, rvs, re, ns, rfl, hr, hri, hns⟩ := (hys.mono hle10).2 i v hv
    have hns5 := (hrlo ns (List.mem_of_getElem? hns)).2.1
    have hrln : rvs.length = ns.length := hri.length
    have hgd : rl.getD i [] = ns := by rw [List.getD_eq_getElem?_getD, hns]; rfl
    have hcm : (L + 1, oc) ∈ led ++ (259, o9) :: (led8 ++ (LL, lO lvs le) :: [(H, lO (refs []) xe), (L + 1, oc)]) := List.mem_append_right _ (.tail _ (List.mem_append_right _ (.tail _ (.tail _ (.head _)))))
    obtain ⟨env0, he0⟩ : ∃ e, e = env := ⟨_, rfl⟩
    rw [← he0] at S ⊢
    refine S.lamcall (n := n + 6) (binds := [(Str.ofString "row", .ref r)]) (hle10 _ _ hf) rfl rfl ⟨c', oc', vs', t', rfl, S.get (hle10 _ _ hc'), hdc, hvc⟩ (BindsTo.of_eq rfl) (noCell rfl) (locs rfl) rfl rfl rfl rfl rfl ?_
    intro env s E Fs' hsc hce S
    dsimp only at hsc hce
    repeat ((fail_if_success (show wpAny _ _ (eval (Expr.IfExp _ _ _ _) _) _ _ _)); kc_bool)
    refine wpAny_mono (Q := fun v s' => ∃ t, v = .int (krOf odd ns).1 t ∧ Sit w (n + 6) ((A.deeper env0).in1.in1.deeper env) env o₀ Fs' J10 (fun x => List.lookup x [(Str.ofString "row", Value.ref r)].reverse) (led ++ (259, o9) :: (led8 ++ (LL, lO lvs le) :: [(H, lO (refs []) xe), (L + 1, oc)])) s') ?_ ?_ fun _ _ e => e
    · repeat kc_bool
      refine S.ldf (kind_of hsc rfl) (by rw [hce]; rfl) (S.getN hcm) hoc ?_
      repeat kc_bool
      refine S.mod (by decide) ?_
      intro _ s S
      repeat kc_bool
      split
      · rename_i hq
        have ho : odd = true := by rw [hodd]; simpa using hq
        repeat kc_bool
        refine S.lenL (S.get hr) (by omega) ?_
        intro _ s S
        repeat kc_bool
        refine S.neg ?_
        intro t s S
        exact ⟨t, by rw [hrln]; unfold krOf; rw [if_pos ho], S⟩
      · rename_i hq
        have ho : ¬ odd = true := by rw [hodd]; simpa using hq
        repeat kc_bool
        refine S.lenL (S.get hr) (by omega) ?_
        intro t s S
        exact ⟨t, by rw [hrln]; unfold krOf; rw [if_neg ho], S⟩
    rintro v s ⟨t, rfl, S⟩
    repeat kc_bool
    refine S.newL (by rw [sizeLine_eq]; simp) ?_
    intro a s S
    refine S.keep1 fun J11 hle11 ha S => ?_
    exact ⟨_, _, _, S, fun S => ⟨J11, hle11, ⟨⟨a, (krOf odd ns).1, r, ns⟩, rfl, ⟨_, _, _, _, ha, hle11 _ _ hr, hri⟩, by rw [hgd]; rfl⟩, S⟩⟩
--]]D
  · intro J10 ks led s i j C hle10 hkl hks S hi hj hC
    obtain ⟨x, hx1, hx2, hx3⟩ := hks i hi
    obtain ⟨y, hy1, hy2, hy3⟩ := hks j hj
    unfold kas_ask
    rw [hx1, hy1]
    rw [ltK_at (by rw [← hys.1]; exact hi) (by rw [← hys.1]; exact hj) hx3 hy3] at hC
    exact S.keyLt (by have := S.units; omega) hx2 hy2 hC
  intro D10 p e10 J10 s hp hup hle10 S
  have hord := rows_order (hys.mono hle10) hp
  rw [hys.1] at hp hup
  refine S.keep1 fun J11 hle11 hD10 S => ?_
  have hord := hord.mono hle11
  have hF := hF.mono (hle10.trans hle11)
  have hA := hA.mono (hle10.trans hle11)
  have hle11 := hle9.trans (hle10.trans hle11)
  repeat kc_bool
  have hall : ∀ d ∈ dn, 1 ≤ d.2.length ∧ d.2.length ≤ 5 ∧ ∀ n ∈ d.2, 0 ≤ n ∧ n < 256 := fun d hd => by
    obtain ⟨ns, h1, rfl⟩ := List.mem_map.mp (hperm.mem_iff.mp hd)
    exact hrlo ns h1
  have hdl : dn.length = rl.length := by rw [hperm.length_eq, List.length_map]
  obtain ⟨f1, f2, f3, f4, f5, f6⟩ := fm_facts (hd := hd) (W := W) (bare := bare) hall (by omega) hhd0
  obtain ⟨ps', f, p', g1, g2, g3, g4, g5, g6⟩ := fm_fin (hd := hd) (W := W) (bare := bare) hall (by omega) (by omega) hhd0
  have hwo := dn_order hperm hsort hp hup
  refine S.fmMeth hF (by k_is) (by k_is) (fun _ => rfl) ?_
  repeat kc_bool
  have S := S.perm (news' := led8 ++ (LL, lO lvs le) :: [(H, lO (refs []) xe), (L + 1, oc), (259, o9)]) ((List.Perm.of_eq (by simp)).trans (List.perm_append_comm (l₁ := led8 ++ (LL, lO lvs le) :: [(H, lO (refs []) xe), (L + 1, oc)]) (l₂ := [(259, o9)])))
  refine fstr_spec (n := n + 2) S hF hA hL ⟨f1, f2⟩ (by omega) (by omega) g1 g2 (by omega) g3 g4 g5 ?_
  intro tr J12 led12 lvs12 le12 s hle12 hA12 S
  rw [g6]
  repeat kc_bool
  refine listcomp_ (cl := []) rfl rfl (by decide) (fun _ => rfl) ?_
  repeat kc_bool
  refine S.compList (hle12 _ _ hD10) (by rw [List.length_map, Array.length_toList, hp.size, sizeLine_eq]; omega) (by decide) rfl rfl (fun k J' news' ys => news' = led12 ++ (LL, lO lvs12 le12) :: [(H, lO (refs []) xe), (L + 1, oc), (259, o9)] ∧ StrsAre ys (((p.toList.map fun i => rl.getD i []).take k).map written)) ⟨rfl, .nil⟩ ?_ ?_
  · rintro k v J13 mC news' ys' D' e' cenv Fs2 s E hk hle ⟨rfl, hys'⟩ hsc2 hce S
    have hsc := hsc2.trans (relabel_eq hsc)
    obtain ⟨r, rvs, re, ns, rfl, hr, hri, hns⟩ := ((hord.mono hle12).mono hle).2 k v hk
    have hnsr : ns ∈ rl := by
      obtain ⟨i, hi, hi2⟩ := List.mem_map.mp (List.mem_of_getElem? hns)
      have hi : i < rl.length := by
        have := hp.perm.mem_iff.mp hi
        simpa using this
      rw [← hi2, List.getD_eq_getElem?_getD, List.getElem?_eq_getElem hi]
      exact List.getElem_mem _
    obtain ⟨q1, q2, q3⟩ := hrlo ns hnsr
    repeat kc_bool
    refine written_spec (n := n + 8) S hr hri q1 q2 ?_
    intro t J14 s hle14 S
    refine ⟨J14, _, _, hle14, ⟨rfl, ?_⟩, S⟩
    rw [take_snoc hns, List.map_append]
    exact hys'.append' (.cons _ _ .nil)
  rintro D13 e13 ys13 J13 news' s hle13 ⟨rfl, hys13⟩ hyl S
  rw [List.length_map, ← List.length_map (f := fun i => rl.getD i []), List.take_length, ← hwo] at hys13
  refine S.keep1 fun J14 hle14 hD13 S => ?_
  repeat kc_bool
  refine S.div (by decide) (PyProof.noPylong_small (by decide)) ?_
  intro _ s S
  repeat kc_bool
  refine S.mod (by decide) ?_
  intro _ s S
  repeat kc_bool
  refine S.mod (by decide) ?_
  intro _ s S
  repeat kc_bool
  refine S.div (by decide) (PyProof.noPylong_small (by decide)) ?_
  intro _ s S
  repeat kc_bool
  refine S.mod (by decide) ?_
  intro _ s S
  repeat kc_bool
  have hb2 : ((whole.fdiv 72).fmod 2 == 0) = bare := by
    rw [hbare, Bool.eq_iff_iff]
    simp
  rw [← hhd, ← hW]
  first | rw [hb2] | rw [← hbare]
  have hwl := ws_len hall
  have hl2 : (wsD dn).length = dn.length := by simp [wsD]
  refine folded_spec (n := n + 8) S hD13 hys13 (by omega) (fun x hx => by have := hwl x hx; omega) ?_
  intro tf J15 s hle15 S
  repeat kc_bool
  refine P.eq_str ?_
  obtain ⟨va, ea, tk, tv, ka, o1, o2, rfl, hpa, ho1, ho2⟩ := hA12
  rw [show ((folded hd W bare (wsD dn)).cps.toList == (folded hd W bare (wsD dn)).cps.toList) = true from beq_self_eq_true _]
  exact h _ _ _ _ _ o9 o1 o2 S (hle11.trans (hle12.trans (hle13.trans (hle14.trans hle15)))) ho9 ho1 ho2 (by simp) (by simp) (by simp)
end
-- text EN
section
variable {w : World} {n : Nat} {A : Around} {env : Env} {o₀ : OsState} {Fs J : Know} {m : Loc} {news : Led} {s : Shared} {E : Value → Shared → Prop}
noncomputable def tabs3 : List Addr := [259, 140, 147]
noncomputable def p0 : Program := { (default : Program) with main := { (default : Module) with body := [.Import [{ (default : Alias) with name := "sys" }] default] } }
theorem top_hidden {q : Program} {loose : List Str} {mean : ExcName → Option Value} {mg mb : Str → Option Value} {h : Heap} (T : Top q loose mean mg mb h) (hT : ∀ P ∈ tabs3, h.get? P = some (tabObj #[])) :
    ∃ p loose mean mg mb, Top p loose mean mg mb (hideAll h tabs3) := by
  have keep : ∀ a, a ∉ tabs3 → ∀ o, h.get? a = some o → (hideAll h tabs3).get? a = some o := fun a ha o e => hideAll_get _ e ha
  refine ⟨p0, loose ++ (recsOf q).map (·.name) ++ (litsOf q).map (·.1) ++ (clssOf q loose).map (·.name), mean, mg, mb, ?_⟩
  exact {
    g := T.g.at' (keep mainGlobals (by decide))
    b := T.b.at' (keep builtinsNs (by decide))
    nolimit := let ⟨mc, h1, h2⟩ := T.nolimit; ⟨mc, h1.at' (keep cStatics (by decide)), h2⟩
    nodigits := let ⟨mc, h1, h2⟩ := T.nodigits; ⟨mc, h1.at' (keep cStatics (by decide)), h2⟩
    fn := fun d hd => nomatch (show d ∈ [] from hd)
    own := fun d hd => nomatch (show d ∈ [] from hd)
    const := fun x d e => nomatch (show none = some d from e)
    free := fun x h1 h2 _ _ _ => by
      simp only [List.mem_append, not_or] at h2
      exact T.free x h1 h2.1.1.1 h2.1.1.2 h2.1.2 h2.2
    builtins := T.builtins
    tab := fun d hd => nomatch (show d ∈ [] from hd)
    bmain := by
      obtain ⟨bm, ob, h1, h2, h3, h4, r⟩ := T.bmain
      refine ⟨bm, ob, h1, h2, keep bm (fun q => ?_) _ h3, h4, r⟩
      have := hT bm q
      rw [h3] at this
      cases this
      cases h4
    seer := fun hi => absurd hi (by decide) }
theorem in_hidden {h : Heap} (X : (Mine.hd.heap_1 w.params).In h) : (Mine.hd.heap_1 w.params).In (hideAll h tabs3) := fun a o e => by
  refine hideAll_get _ (X a o e) fun q => ?_
  have e1 : (Mine.hd.heap_1 w.params).lookup 259 = none := by kernel_rfl
  have e2 : (Mine.hd.heap_1 w.params).lookup 140 = none := by kernel_rfl
  have e3 : (Mine.hd.heap_1 w.params).lookup 147 = none := by kernel_rfl
  rcases List.mem_cons.mp q with rfl | q
  · rw [e1] at e; cases e
  rcases List.mem_cons.mp q with rfl | q
  · rw [e2] at e; cases e
  rcases List.mem_cons.mp q with rfl | q
  · rw [e3] at e; cases e
  · exact nomatch q
theorem entry {s₀ s₁ : Shared} {mg mb : Str → Option Value} {q : Program} {loose : List Str} {fa l : Addr} {vs : List Value} {xs : List Int}
    (T : Top q loose (ExcName.means s₀.heap) mg mb s₁.heap) (KX : (Mine.hd.heap_1 w.params).In s₁.heap) (KT : ∀ P ∈ tabs3, s₁.heap.get? P = some (tabObj #[])) (hg : s₁.gens = #[]) (hmg : mg (Str.ofString "law") = some (.ref fa))
    (hl : s₁.heap.get? l = some (lO vs 0)) (hi : IntsAre vs xs) (hlen : xs.length ≤ 63) :
    wpAny (MM w) callerA (PySem.call (.ref fa) [.ref l]) (fun v s' => v = .bool true ∧ OldK s₁.heap s'.heap ∧ s'.os = s₁.os ∧ AllBare s'.gens) E s₁ := by
  have hfa : fa = 262 := by
    have := mg_of (n := Str.ofString "law") (v := .ref 262) KX T.g (by k_is)
    rw [hmg] at this
    exact Value.ref.inj (Option.some.inj this)
  subst hfa
  have P : Pre w (0 + 10) callerA s₁.os (fun a o => (hideAll s₁.heap tabs3).get? a = some o) [(259, tabObj #[]), (140, tabObj #[]), (147, tabObj #[])] s₁ := by
    refine ⟨fun a o e => ⟨of_hideAll _ e, fun q => ?_⟩, fun p hp => ?_, by decide, ⟨_, ⟨in_hidden KX, top_hidden T KT⟩, fun _ _ e => e⟩, ⟨[], rfl⟩, rfl, by decide, by decide, rfl, .of_eq hg⟩
    · have q : a ∈ tabs3 := q
      rw [hideAll_none tabs3 q] at e; cases e
    · rcases List.mem_cons.mp hp with rfl | hp
      · exact KT _ (by decide)
      rcases List.mem_cons.mp hp with rfl | hp
      · exact KT _ (by decide)
      rcases List.mem_cons.mp hp with rfl | hp
      · exact KT _ (by decide)
      · exact nomatch hp
  have hl' : (hideAll s₁.heap tabs3).get? l = some (lO vs 0) := hideAll_get _ hl fun q => by
    have := KT l q
    rw [hl] at this
    cases this
  refine law_spec P hl' hi hlen ?_
  intro env' J' m' led s' o1 o2 o3 S hle h1 h2 h3 m1 m2 m3
  have grown : ∀ b o, b ∈ tabs3 → s₁.heap.get? b = some o → isCodeTable s₁.heap b ∧ o = tabObj #[] ∧ ∃ ps, s'.heap.get? b = some (tabObj ps) := fun b o hb e => by
    have e2 := KT b hb
    rw [e] at e2
    have e2 := Option.some.inj e2
    rcases List.mem_cons.mp hb with rfl | hb
    · obtain ⟨ps, rfl, _⟩ := h1
      exact ⟨((codeHd_of_K KX code261).tab (e2 ▸ e)).isCodeTable, e2, ps, S.getN m1⟩
    rcases List.mem_cons.mp hb with rfl | hb
    · obtain ⟨ps, rfl, _⟩ := h2
      exact ⟨((codeHd_of_K KX code144).tab (e2 ▸ e)).isCodeTable, e2, ps, S.getN m2⟩
    rcases List.mem_cons.mp hb with rfl | hb
    · obtain ⟨ps, rfl, _⟩ := h3
      exact ⟨((codeHd_of_K KX code151).tab (e2 ▸ e)).isCodeTable, e2, ps, S.getN m3⟩
    · exact nomatch hb
  have keep : ∀ b o, b ∉ tabs3 → s₁.heap.get? b = some o → s'.heap.get? b = some o := fun b o hb e => S.get (hle b o (hideAll_get _ e hb))
  refine ⟨rfl, ⟨fun b o e => ?_, fun b o e => ?_⟩, S.os, S.bare⟩
  · by_cases hb : b ∈ tabs3
    · obtain ⟨ht, rfl, ps, hP⟩ := grown b o hb e
      exact .inr (.inl ⟨ht, rfl, #[], ps, rfl, by rw [Array.empty_append]; exact hP⟩)
    · exact .inl (keep b o hb e)
  · by_cases hb : b ∈ tabs3
    · obtain ⟨_, _, ps, hP⟩ := grown b o hb e
      exact ⟨_, hP⟩
    · exact ⟨o, keep b o hb e⟩
theorem holds_ : PySem.Challenge.rw_of0054_01.Holds := by
  apply Mine.hd2
  intro w s₀ s₁ mg mb G Y fa o pm cd doc dV kV ho hd hcd hD hmg hg args vals as hpre hlay hrd hwl hlo
  have KX := km_in_of Y
  have KT := km_tabs_of Y
  clear Y
  have T := G.T
  replace hmg : mg (Str.ofString "law") = some (.ref fa) := hmg
  clear hd hD hcd
  wrow_args hpre hlay hrd hwl hlo
  rename_i xs _ _ _ _ _ _ _ l vs _ hL _ w1 _ hI _ hc _
  obtain ⟨ol, hol, hcl, nl, hdl⟩ := hL
  have hl : s₁.heap.get? l = some (lO vs 0) := by
    have w1 : Well w.params s₁.heap (.ref l) (.list (ofPys (xs.map PyData.int))) := w1
    cases w1 with
    | list e _ =>
      rw [hol] at e
      have e := Option.some.inj e
      rw [e] at hdl
      rw [hol, e]
      injection hdl with h1 h2
      rw [h1]
  refine wpAny_mono (entry (E := fun e s' => GoodWG PySem.Challenge.rw_of0054_01.row.claim (classAt s₀.heap) (ExcName.means s₀.heap) [ofPy (PyData.list (List.map PyData.int xs))] s₁ (Except.error e) s') T KX KT hg hmg hl hI (by omega)) (fun v s' hv => ?_) fun _ _ e => e
  obtain ⟨rfl, h2, h3, h4⟩ := hv
  exact ⟨.inl ⟨_, .bool true, [], rfl, fun _ => rfl, .bool true, by first | with_unfolding_all rfl | kernel_rfl, fun _ => ⟨List.nodup_nil, fun a ha => nomatch ha⟩⟩, h2, h3, h4⟩
end
end Mine
theorem PySem.Challenge.cw_of0054_01_holds : PySem.Challenge.rw_of0054_01.Holds := by
  exact Mine.holds_
